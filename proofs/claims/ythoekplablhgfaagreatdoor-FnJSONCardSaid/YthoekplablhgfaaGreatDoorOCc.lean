/-
  Case 3 of minify.Number: without a power: all but the numbers below 0.1.
-/
import Derived.Test.YthoekplablhgfaaGreatDoorOPre
import Derived.Test.YthoekplablhgfaaGreatDoorMDig
import Derived.IntWalk
import Derived.Deep.DeepCutAuto
import Derived.Deep.CutBlock
namespace Go.Proofs.YthoekplablhgfaaGreatDoor
open Go.RowKit
set_option linter.unusedVariables false

set_option maxRecDepth 1000000 in
set_option maxHeartbeats 12800000 in
noncomputable def numRest3 (h o cap N n sl di z : Nat) (neg : Bool) (I F : List Int) (ev : Int) (pre xs : List Int) (tail : List Value) (w : World) : (RA : Prop) ×' (Kept RA → (numPre h o cap N n sl di z neg I F ev pre xs tail w).2.2.1) := by
  apply PSigma.mk
  focus
    intro rA
    intro hcap hmax nN two sl1 dil hz hNn m hmle hdin HB HL HSG HDOT HMAN HZERO HZEND HMZ HME HC HND HI HF HMF HIA HFA HNE HEX HEL ev0 ev1 i0 sb HSLN u10 u11 u12 u13 u15 u16 u17 u18 u19 u20 u21 u22 u23 u24 u25 u26 u27 u28 u29 u30 u31 u32 u33 u34 u35 u36 u37 u38 u39 u40 u41 u42 u43 u44 u45 u46 u47 u48 u49 u50 u51 u52 u53 u54 u55 u56 u57 u58 u59 u60 u61 u62 u63 u64 u65 u66 u67 u68 u69 u70 u71 u72 u73 u74 u75 u76 u77 u78 u79 u80 u81 u82 u83 u84 u85 u86 u87 u88 u89 u90 u91 u92 u93 u94 u95 u96 u97 u98 u99 u100 u101 u102 u103 u104 u105 u106 u107 u108 u109 u110 u111 u112 u113 u114 u115 u116 u117 dv u118 u119 u120 st HST hst1 hst2 hn1 u121 u122 u123 u124 u125 u126 u127 u128 u129 u130 u131 u132 u133 iv u134 u135 u136 u137 u138 u139 u140 u141 u142 u143 u144 u145 u146 u147 en2 u148 u149 u150 u151 u152 u153 u154 u155 u156 u157 u158 u159 u160 u161 u162 u163 u164 u165 u166 u167 u168 u169 u170 u171 u172 u173 u174 u175 u176 u177 hIF hle nn nx en HNN HNX HST' HZ u4 u14 u327 u328 u329 u330 u331 u332 u333 u334 u335 u336 u337 u338 u339 u340 u341 u342 u343 u344 u345 u346 u347 u348 u349 u350 u351 u352 u353 u354 u355 u356 u357 u358 u359 u360 u361 u362 u363 u364 u365 u366 u367 u368 u369 u370 u371 u372 u373 u374 u375 u376 u377 u378 u379 u380 nn1 nn2 nx1 nx2 HK HR HNG u381 u382 u383 u384 u385 u386 u387 u388 u389 u390 u391 u392 u393 u394 u395 u396 u397 u398 u399 u400 u401 u402 u403 u404 u405 u406 u407 u408 u409 u410 u411 u412 u413 e HE e0 e1 Li HLI lb0 lb1 Le HLE mb0 mb1 B HBD HC1 K0 aK0 u520 u521 u522 u523 u524 u525 u526 u527 u528 u529 u530 HSB k6
    have K6 := Lib.hid k6
    have hasf : asIs I F ev = false := by
      unfold asIs
      rw [HNN.out, HNX.out, HE.out, HSB.out]
      simp
    have HAS := Lib.hid hasf
    clear hasf
    go_upto_if 607 with (fail)
    clear k6
    go_cut [6, 7, 8, 27, 28, 29, 30, 31] from 600 to 730 (fun v6 v7 v8 v27 v28 v29 v30 v31 wc => ∃ (a b : Nat) (ys : List Int), v6 = .int .i64 (a : Nat) ∧ v8 = .int .i64 (b : Nat) ∧ BufO wc h o pre ys tail ∧ Onl h w wc ∧ ys.length = N ∧ (neg = true → 1 ≤ a) ∧ b = a + B.length ∧ b ≤ N ∧ (∀ j, j < B.length → ys.getD (a + j) 0 = B.getD j 0))
    case first =>
      by_cases k7 : e < 0
      · rename_i X0 J1 K1 hJ1 hK1
        revert hcap hmax nN two sl1 dil hz hNn m hmle hdin HB HL HSG HDOT HMAN HZERO HZEND HMZ HME HC HND HI HF HMF HIA HFA HNE HEX HEL ev0 ev1 i0 sb HSLN u10 u11 u12 u13 u15 u16 u17 u18 u19 u20 u21 u22 u23 u24 u25 u26 u27 u28 u29 u30 u31 u32 u33 u34 u35 u36 u37 u38 u39 u40 u41 u42 u43 u44 u45 u46 u47 u48 u49 u50 u51 u52 u53 u54 u55 u56 u57 u58 u59 u60 u61 u62 u63 u64 u65 u66 u67 u68 u69 u70 u71 u72 u73 u74 u75 u76 u77 u78 u79 u80 u81 u82 u83 u84 u85 u86 u87 u88 u89 u90 u91 u92 u93 u94 u95 u96 u97 u98 u99 u100 u101 u102 u103 u104 u105 u106 u107 u108 u109 u110 u111 u112 u113 u114 u115 u116 u117 dv u118 u119 u120 st HST hst1 hst2 hn1 u121 u122 u123 u124 u125 u126 u127 u128 u129 u130 u131 u132 u133 iv u134 u135 u136 u137 u138 u139 u140 u141 u142 u143 u144 u145 u146 u147 en2 u148 u149 u150 u151 u152 u153 u154 u155 u156 u157 u158 u159 u160 u161 u162 u163 u164 u165 u166 u167 u168 u169 u170 u171 u172 u173 u174 u175 u176 u177 hIF hle nn nx en HNN HNX HST' HZ u4 u14 u327 u328 u329 u330 u331 u332 u333 u334 u335 u336 u337 u338 u339 u340 u341 u342 u343 u344 u345 u346 u347 u348 u349 u350 u351 u352 u353 u354 u355 u356 u357 u358 u359 u360 u361 u362 u363 u364 u365 u366 u367 u368 u369 u370 u371 u372 u373 u374 u375 u376 u377 u378 u379 u380 nn1 nn2 nx1 nx2 HK HR HNG u381 u382 u383 u384 u385 u386 u387 u388 u389 u390 u391 u392 u393 u394 u395 u396 u397 u398 u399 u400 u401 u402 u403 u404 u405 u406 u407 u408 u409 u410 u411 u412 u413 e HE e0 e1 Li HLI lb0 lb1 Le HLE mb0 mb1 B HBD HC1 K0 aK0 u520 u521 u522 u523 u524 u525 u526 u527 u528 u529 u530 HSB K6 HAS X0 J1 K1 hJ1 hK1 k7
        exact rA.out
      · skip
        -- [[
        focus
          go_upto_if 688 with (fail)
          obtain ⟨E, hE⟩ : ∃ E : Nat, e = (E : Int) := ⟨e.toNat, by omega⟩
          have hEn : E < nn := by have := HC1.out; omega
          have hB : B = (sigD I F).take E ++ 46 :: (sigD I F).drop E := by
            rw [← HBD.out]
            unfold body
            have := HC1.out
            rw [HNN.out, if_neg (show ¬ (nn : Int) ≤ e from by omega), HSB.out, if_neg (by simp), HLI.out, if_pos K6.out, if_neg (show ¬ e < 0 from by omega), hE]
            rfl
          have HBB := Lib.hid hB
          have HEE := Lib.hid hE
          have K7 := Lib.hid k7
          clear hB hE k7
          go_cut [6, 7, 8] from 600 to 699 (fun v6 v7 v8 wc => ∃ (a dt b : Nat), v6 = .int .i64 (a : Nat) ∧ v7 = .int .i64 (dt : Nat) ∧ v8 = .int .i64 (b : Nat) ∧ w = wc ∧ a ≤ dt ∧ dt ≤ a + nn ∧ b = a + nn + 1 ∧ b ≤ N ∧ (neg = true → 1 ≤ a) ∧ (∀ j, j < dt - a → xs.getD (a + j) 0 = (sigD I F).getD j 0) ∧ (∀ j, dt - a ≤ j → j < nn → xs.getD (a + 1 + j) 0 = (sigD I F).getD j 0))
          case first =>
            have he := HE.out
            have hE := HEE.out
            rcases HK.out with ⟨_, _, g, K⟩ | ⟨_, _, K⟩ | ⟨_, _, K⟩
            · obtain ⟨e1, e2, e3, le, pt, zz, dd⟩ := K
              have k1 : ¬ en ≤ di := by omega
              have k2 : ((di : Int) == (st : Int)) = true := by simp; omega
              have ha : (en : Int) - (nn : Int) - 1 = ((st + g : Nat) : Int) := by omega
              have b1 : (en : Int) ≤ 1000000 := by omega
              have b2 : (nn : Int) ≤ (en : Int) := by omega
              have HAA := Lib.hid ha
              have HE2 := Lib.hid e2
              have HDD := Lib.hid dd
              clear e1 e2 e3 pt zz dd he hE ha
              go_wp2_with fail
              go_meet
              case rel =>
                have e2 := HE2.out
                refine ⟨st + g, st + g, en, by rw [HAA.out], by rw [HAA.out], rfl, rfl, by omega, by omega, by omega, by omega, fun hn => by have := HNG.out hn; omega, fun j hj => by omega, fun j _ hj => ?_⟩
                rw [← HDD.out j hj]
                congr 1
                omega
            · obtain ⟨e1, e2, e3, le, dd⟩ := K
              have hroom := HEL.out.1 (by omega)
              have hdl := dl_pos (-ev)
              have hen1 : en + 1 ≤ N := by omega
              have HE1 := Lib.hid e1
              have HDD := Lib.hid dd
              clear e1 e3 dd he hE hroom hdl
              go_wp2_with fail
              go_meet
              case rel =>
                have e1 := HE1.out
                exact ⟨st, en, en + 1, rfl, rfl, (by first | rfl | go_num | (congr 1; omega)), rfl, by omega, by omega, by omega, by omega, HNG.out, fun j hj => HDD.out j (by omega), fun j h1 h2 => by omega⟩
            · obtain ⟨e1, e2, e3, e4, le, pt, d1, d2⟩ := K
              have k1 : ¬ en ≤ di := by omega
              have k2 : ((di : Int) == (st : Int)) = false := by simp; omega
              have HE2 := Lib.hid (And.intro e1 (And.intro e2 e4))
              have HD1 := Lib.hid d1
              have HD2 := Lib.hid d2
              clear e1 e2 e3 e4 pt d1 d2 he hE
              go_wp2_with fail
              go_meet
              case rel =>
                obtain ⟨e1, e2, e4⟩ := HE2.out
                refine ⟨st, di, en, rfl, rfl, rfl, rfl, by omega, by omega, by omega, by omega, HNG.out, HD1.out, fun j h1 h2 => ?_⟩
                rw [show st + 1 + j = di + 1 + (j - (di - st)) from by omega, HD2.out _ (by omega)]
                congr 1
                omega
          case rest =>
            obtain ⟨a, dt, b, rfl, rfl, rfl, rfl, had, hdn, hba, hbN, hna, hx1, hx2⟩ := hcut
            have HX1 := Lib.hid hx1
            have HX2 := Lib.hid hx2
            have HBA := Lib.hid hba
            have hdtb : dt + 1 ≤ b := by omega
            clear hx1 hx2 hba
            go_upto_region 178 with (fail)
            go_cut [31] from 700 to 702 (fun v31 wc => ∃ nd : Nat, v31 = .int .i64 (nd : Nat) ∧ nd = a + E ∧ w = wc)
            case first =>
              have hE := HEE.out
              have hq : (a : Int) + e = ((a + E : Nat) : Int) := by omega
              have HQ := Lib.hid hq
              have b3 : (a : Int) ≤ 1000000 := by omega
              clear hE hq
              go_wp2_with fail
              go_meet
              case rel => exact ⟨a + E, by rw [HQ.out], rfl, rfl⟩
            case rest =>
              obtain ⟨nd, rfl, hnd, rfl⟩ := hcut
              have HND := Lib.hid hnd
              have hndN : nd + 1 ≤ b := by have := HBA.out; omega
              have hnda : a ≤ nd := by omega
              clear hnd
              rcases Nat.lt_trichotomy dt nd with hh | hh | hh
              · have k1 : (dt : Int) < (nd : Int) := by omega
                have hoo : dt + 1 + (nd - dt) ≤ N := by omega
                have hcl := cut_length (xs) (dt + 1) (dt + 1 + (nd - dt)) (by omega) (by rw [HL.out]; omega)
                rw [show dt + 1 + (nd - dt) - (dt + 1) = nd - dt from by omega] at hcl
                have HCL := Lib.hid hcl
                have hmv : (moved (xs) (dt) (dt + 1) (nd - dt)).length = N := by rw [moved_length (by rw [HL.out]; omega) (by rw [HL.out]; omega)]; exact HL.out
                have HMV := Lib.hid hmv
                have hget := fun k => moved_get (xs := xs) (o := dt) (s := dt + 1) (n := nd - dt) (by rw [HL.out]; omega) (by rw [HL.out]; omega) k
                have HGT := Lib.hid hget
                clear hcl hmv hget
                have s13a : (0 : Int) ≤ (dt : Int) := by omega
                have s13b : (dt : Int) ≤ (N : Int) := by omega
                have s13c : (N : Int) ≤ (cap : Int) := by omega
                have s13d : ¬ cap = dt := by omega
                have s13e : IntKind.i64.wrap ((dt : Int)) = (dt : Int) := IntWalk.i64_in _ (by omega)
                have s13f : ((dt : Int)).toNat = dt := by omega
                have s14a : (0 : Int) ≤ (dt : Int) + 1 := by omega
                have s14b : (dt : Int) + 1 ≤ (nd : Int) + 1 := by omega
                have s14c : (nd : Int) + 1 ≤ (cap : Int) := by omega
                have s14d : ¬ cap = dt + 1 := by omega
                have s14e : IntKind.i64.wrap ((dt : Int) + 1) = (dt : Int) + 1 := IntWalk.i64_in _ (by omega)
                have s14f : ((dt : Int) + 1).toNat = dt + 1 := by omega

                have n1 : IntKind.i64.wrap ((nd : Int) + 1) = (nd : Int) + 1 := IntWalk.i64_in _ (by omega)
                have n2 : ((nd : Int) + 1).toNat = nd + 1 := by omega
                go_wp2_with fail
                go_region_law (refine step_copy_only rfl (.tmp 708) (.tmp 714) 44 44 rfl 5 Tryz.underlying44 size_u8 (some ⟨h, o + dt, none⟩) (some ⟨h, o + (dt + 1), none⟩) (N - (dt)) (cap - (dt)) (nd - dt) (cap - (dt + 1)) (by simp [Act.eval, Act.put]) (by simp [Act.eval, Act.put]) h (o + (dt)) _ _ HB.out.2 ((cut xs (dt + 1) (dt + 1 + (nd - dt))).map (Value.int .u8)) (by rw [List.length_map, HCL.out]; exact (Nat.min_eq_left (by omega)).symm) (fun _ => ⟨rfl, ⟨h, o + (dt + 1), none⟩, rfl, HB.out.src (dt + 1) (nd - dt) (by rw [HL.out]; omega)⟩) (by simp only [List.length_map, List.length_append]; have := HB.out.1; have := HL.out; rw [HCL.out]; omega) (one_cells _) h w (Onl.refl _ _).drew (Nat.le_refl _) ?_; intro w4 hg4 hb4)
                have hbw4 : BufO w4 h o pre (moved xs (dt) (dt + 1) (nd - dt)) tail := BufO.moved HB.out.1 (by rw [HL.out]; omega) (by rw [HL.out]; omega) hg4.out
                have HBW4 := Lib.hid hbw4
                have HB4 := Lib.hid hb4
                clear hg4 hb4 hbw4

                have hs := HBW4.out.set nd (by rw [HMV.out]; omega) 46
                have hfz := HBW4.out.frozen nd
                have hcz := HBW4.out.cell nd (by rw [HMV.out]; omega)
                have hnN : nd < N := by omega
                have HS := Lib.hid hs
                clear hs
                go_wp2_with fail
                go_meet
                case rel =>
                  have hba := HBA.out
                  have hnd := HND.out
                  have hnn := HNN.out
                  have hmv := HMV.out
                  refine ⟨a, b, _, rfl, rfl, HS.out, HB4.out.setCell (p := ⟨h, o + nd, none⟩) rfl _, by rw [List.length_set]; exact hmv, hna, ?_, hbN, ?_⟩
                  · rw [HBB.out]; simp only [List.length_append, List.length_cons, List.length_take, List.length_drop]; omega
                  · rw [HBB.out]
                    refine At.append (At.take (by omega) fun j hj => ?_) (At.cons ?_ (At.drop fun j hj => ?_))
                    · rw [set_get (by omega), if_neg (by omega), HGT.out]
                      split
                      · rw [← HX2.out j (by omega) (by omega)]
                        congr 1
                        omega
                      · exact HX1.out j (by omega)
                    · rw [List.length_take, set_get (by omega), if_pos (by omega)]
                    · rw [List.length_take, set_get (by omega), if_neg (by omega), HGT.out, if_neg (by omega), ← HX2.out (E + j) (by omega) (by omega)]
                      congr 1
                      omega
              · subst hh
                have k1 : ¬ (dt : Int) < (dt : Int) := by omega
                have hs := HB.out.set dt (by rw [HL.out]; omega) 46
                have hfz := HB.out.frozen dt
                have hcz := HB.out.cell dt (by rw [HL.out]; omega)
                have hnN : dt < N := by omega
                have HS := Lib.hid hs
                clear hs
                go_wp2_with fail
                go_meet
                case rel =>
                  have hba := HBA.out
                  have hnd := HND.out
                  have hnn := HNN.out
                  have hmv := HL.out
                  refine ⟨a, b, _, rfl, rfl, HS.out, (Onl.refl _ _).setCell (p := ⟨h, o + dt, none⟩) rfl _, by rw [List.length_set]; exact hmv, hna, ?_, hbN, ?_⟩
                  · rw [HBB.out]; simp only [List.length_append, List.length_cons, List.length_take, List.length_drop]; omega
                  · rw [HBB.out]
                    refine At.append (At.take (by omega) fun j hj => ?_) (At.cons ?_ (At.drop fun j hj => ?_))
                    · rw [set_get (by omega), if_neg (by omega)]
                      exact HX1.out j (by omega)
                    · rw [List.length_take, set_get (by omega), if_pos (by omega)]
                    · rw [List.length_take, set_get (by omega), if_neg (by omega), ← HX2.out (E + j) (by omega) (by omega)]
                      congr 1
                      omega
              · have k1 : ¬ (dt : Int) < (nd : Int) := by omega
                have k2 : (nd : Int) < (dt : Int) := by omega
                have hoo : nd + 1 + (dt - nd) ≤ N := by omega
                have hcl := cut_length (xs) (nd) (nd + (dt - nd)) (by omega) (by rw [HL.out]; omega)
                rw [show nd + (dt - nd) - (nd) = dt - nd from by omega] at hcl
                have HCL := Lib.hid hcl
                have hmv : (moved (xs) (nd + 1) (nd) (dt - nd)).length = N := by rw [moved_length (by rw [HL.out]; omega) (by rw [HL.out]; omega)]; exact HL.out
                have HMV := Lib.hid hmv
                have hget := fun k => moved_get (xs := xs) (o := nd + 1) (s := nd) (n := dt - nd) (by rw [HL.out]; omega) (by rw [HL.out]; omega) k
                have HGT := Lib.hid hget
                clear hcl hmv hget
                have s15a : (0 : Int) ≤ (nd : Int) + 1 := by omega
                have s15b : (nd : Int) + 1 ≤ (N : Int) := by omega
                have s15c : (N : Int) ≤ (cap : Int) := by omega
                have s15d : ¬ cap = nd + 1 := by omega
                have s15e : IntKind.i64.wrap ((nd : Int) + 1) = (nd : Int) + 1 := IntWalk.i64_in _ (by omega)
                have s15f : ((nd : Int) + 1).toNat = nd + 1 := by omega
                have s16a : (0 : Int) ≤ (nd : Int) := by omega
                have s16b : (nd : Int) ≤ (dt : Int) := by omega
                have s16c : (dt : Int) ≤ (cap : Int) := by omega
                have s16d : ¬ cap = nd := by omega
                have s16e : IntKind.i64.wrap ((nd : Int)) = (nd : Int) := IntWalk.i64_in _ (by omega)
                have s16f : ((nd : Int)).toNat = nd := by omega

                go_wp2_with fail
                go_region_law (refine step_copy_only rfl (.tmp 722) (.tmp 726) 44 44 rfl 5 Tryz.underlying44 size_u8 (some ⟨h, o + (nd + 1), none⟩) (some ⟨h, o + nd, none⟩) (N - (nd + 1)) (cap - (nd + 1)) (dt - nd) (cap - (nd)) (by simp [Act.eval, Act.put]) (by simp [Act.eval, Act.put]) h (o + (nd + 1)) _ _ HB.out.2 ((cut xs (nd) (nd + (dt - nd))).map (Value.int .u8)) (by rw [List.length_map, HCL.out]; exact (Nat.min_eq_left (by omega)).symm) (fun _ => ⟨rfl, ⟨h, o + nd, none⟩, rfl, HB.out.src (nd) (dt - nd) (by rw [HL.out]; omega)⟩) (by simp only [List.length_map, List.length_append]; have := HB.out.1; have := HL.out; rw [HCL.out]; omega) (one_cells _) h w (Onl.refl _ _).drew (Nat.le_refl _) ?_; intro w4 hg4 hb4)
                have hbw4 : BufO w4 h o pre (moved xs (nd + 1) (nd) (dt - nd)) tail := BufO.moved HB.out.1 (by rw [HL.out]; omega) (by rw [HL.out]; omega) hg4.out
                have HBW4 := Lib.hid hbw4
                have HB4 := Lib.hid hb4
                clear hg4 hb4 hbw4

                have hs := HBW4.out.set nd (by rw [HMV.out]; omega) 46
                have hfz := HBW4.out.frozen nd
                have hcz := HBW4.out.cell nd (by rw [HMV.out]; omega)
                have hnN : nd < N := by omega
                have HS := Lib.hid hs
                clear hs
                go_wp2_with fail
                go_meet
                case rel =>
                  have hba := HBA.out
                  have hnd := HND.out
                  have hnn := HNN.out
                  have hmv := HMV.out
                  refine ⟨a, b, _, rfl, rfl, HS.out, HB4.out.setCell (p := ⟨h, o + nd, none⟩) rfl _, by rw [List.length_set]; exact hmv, hna, ?_, hbN, ?_⟩
                  · rw [HBB.out]; simp only [List.length_append, List.length_cons, List.length_take, List.length_drop]; omega
                  · rw [HBB.out]
                    refine At.append (At.take (by omega) fun j hj => ?_) (At.cons ?_ (At.drop fun j hj => ?_))
                    · rw [set_get (by omega), if_neg (by omega), HGT.out, if_neg (by omega)]
                      exact HX1.out j (by omega)
                    · rw [List.length_take, set_get (by omega), if_pos (by omega)]
                    · rw [List.length_take, set_get (by omega), if_neg (by omega), HGT.out]
                      split
                      · rw [← HX1.out (E + j) (by omega)]
                        congr 1
                        omega
                      · rw [← HX2.out (E + j) (by omega) (by omega)]
                        congr 1
                        omega
        -- ]]
    case rest =>
      -- [[
      as_aux_lemma =>
        obtain ⟨a, b, ys, rfl, rfl, hbw, hbl, hyl, hna, hba, hbN, hat⟩ := hcut
        have has := HAS.out
        have hR := HR.out
        rw [has, if_neg (by simp), HE.out, HBD.out] at hR
        have HRR := Lib.hid hR
        obtain ⟨L, hL⟩ : ∃ L, B.length = L := ⟨_, rfl⟩
        rw [hL] at hba hat
        have hL1 : 1 ≤ L := by rw [← hL, ← HBD.out]; exact body_pos (by rw [HNN.out]; exact nn1)
        have hab : a < b := by omega
        have HBA := Lib.hid hba
        have HLL := Lib.hid hL
        have HAT := Lib.hid hat
        have HYL := Lib.hid hyl
        have HBW := Lib.hid hbw
        have HBL := Lib.hid hbl
        clear hR has hba hat hyl hbw hbl hL
        have g1 : (b : Int) ≤ (cap : Int) := by omega
        cases neg with
        | true =>
          have hs1 : 1 ≤ a := hna rfl
          obtain ⟨a', rfl⟩ : ∃ a', a = a' + 1 := ⟨a - 1, by omega⟩
          have ec : ((a' + 1 : Nat) : Int) - 1 = (a' : Int) := by omega
          have hb2 := HBW.out.set a' (by rw [HYL.out]; omega) 45
          have hfz := HBW.out.frozen a'
          have hcz := HBW.out.cell a' (by rw [HYL.out]; omega)
          have hcst : ¬ cap = a' := by omega
          have haN : a' < N := by omega
          have g2 : (a' : Int) ≤ (b : Int) := by omega
          have HB2 := Lib.hid hb2
          clear hb2 hna hs1
          go_wp2_with fail
          go_ret
          have hL := HLL.out
          have hba := HBA.out
          have hR2 : numR xs true I F ev = [45] ++ B := by rw [HRR.out]; simp
          rw [hR2]
          refine ⟨a', ys.set a' 45, ?_, HB2.out, HBL.out.setCell (p := ⟨h, o + a', none⟩) rfl _, by rw [List.length_set]; exact HYL.out, by simp; omega, fun j hj => ?_⟩
          · have e1 : b - a' = ([45] ++ B).length := by simp; omega
            rw [← e1]
            rfl
          · rw [set_get (by rw [HYL.out]; omega)]
            cases j with
            | zero => rw [if_pos (by omega)]; rfl
            | succ j =>
              rw [if_neg (by omega), show a' + (j + 1) = a' + 1 + j from by omega, HAT.out j (by simp at hj; omega)]
              rfl
        | false =>
          have hcst : ¬ cap = a := by omega
          have g2 : (a : Int) ≤ (b : Int) := by omega
          clear hna
          go_wp2_with fail
          go_ret
          have hL := HLL.out
          have hba := HBA.out
          have hR2 : numR xs false I F ev = B := by rw [HRR.out]; simp
          rw [hR2]
          refine ⟨a, ys, ?_, HBW.out, HBL.out, HYL.out, by omega, fun j hj => HAT.out j (by omega)⟩
          have e1 : b - a = B.length := by omega
          rw [← e1]
          rfl
      -- ]]

end Go.Proofs.YthoekplablhgfaaGreatDoor
