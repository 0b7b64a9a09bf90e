/-
  Case 3 of minify.Number: the numbers below 0.1.
-/
import Derived.Test.YthoekplablhgfaaGreatDoorOCc
import Derived.Test.YthoekplablhgfaaGreatDoorMDig
import Derived.IntWalk
import Derived.Deep.DeepCutAuto
import Derived.Deep.CutBlock
namespace Go.Proofs.YthoekplablhgfaaGreatDoor
open Go.RowKit
set_option linter.unusedVariables false

set_option maxRecDepth 1000000 in
set_option maxHeartbeats 12800000 in
theorem numCase3A (h o cap N n sl di z : Nat) (neg : Bool) (I F : List Int) (ev : Int) (pre xs : List Int) (tail : List Value) (w : World) : (numRest3 h o cap N n sl di z neg I F ev pre xs tail w).1 := by
  intro hcap hmax nN two sl1 dil hz hNn m hmle hdin HB HL HSG HDOT HMAN HZERO HZEND HMZ HME HC HND HI HF HMF HIA HFA HNE HEX HEL ev0 ev1 i0 sb HSLN u10 u11 u12 u13 u15 u16 u17 u18 u19 u20 u21 u22 u23 u24 u25 u26 u27 u28 u29 u30 u31 u32 u33 u34 u35 u36 u37 u38 u39 u40 u41 u42 u43 u44 u45 u46 u47 u48 u49 u50 u51 u52 u53 u54 u55 u56 u57 u58 u59 u60 u61 u62 u63 u64 u65 u66 u67 u68 u69 u70 u71 u72 u73 u74 u75 u76 u77 u78 u79 u80 u81 u82 u83 u84 u85 u86 u87 u88 u89 u90 u91 u92 u93 u94 u95 u96 u97 u98 u99 u100 u101 u102 u103 u104 u105 u106 u107 u108 u109 u110 u111 u112 u113 u114 u115 u116 u117 dv u118 u119 u120 st HST hst1 hst2 hn1 u121 u122 u123 u124 u125 u126 u127 u128 u129 u130 u131 u132 u133 iv u134 u135 u136 u137 u138 u139 u140 u141 u142 u143 u144 u145 u146 u147 en2 u148 u149 u150 u151 u152 u153 u154 u155 u156 u157 u158 u159 u160 u161 u162 u163 u164 u165 u166 u167 u168 u169 u170 u171 u172 u173 u174 u175 u176 u177 hIF hle nn nx en HNN HNX HST' HZ u4 u14 u327 u328 u329 u330 u331 u332 u333 u334 u335 u336 u337 u338 u339 u340 u341 u342 u343 u344 u345 u346 u347 u348 u349 u350 u351 u352 u353 u354 u355 u356 u357 u358 u359 u360 u361 u362 u363 u364 u365 u366 u367 u368 u369 u370 u371 u372 u373 u374 u375 u376 u377 u378 u379 u380 nn1 nn2 nx1 nx2 HK HR HNG u381 u382 u383 u384 u385 u386 u387 u388 u389 u390 u391 u392 u393 u394 u395 u396 u397 u398 u399 u400 u401 u402 u403 u404 u405 u406 u407 u408 u409 u410 u411 u412 u413 e HE e0 e1 Li HLI lb0 lb1 Le HLE mb0 mb1 B HBD HC1 K0 aK0 u520 u521 u522 u523 u524 u525 u526 u527 u528 u529 u530 HSB K6 HAS X0 J1 K1 hJ1 hK1 k7
  -- [[
  focus
    have he := HE.out
    obtain ⟨Z, hZ⟩ : ∃ Z : Nat, -e = (Z : Int) := ⟨(-e).toNat, by omega⟩
    have hsm := small3 (e := e) (nn := nn) nn2 (by omega) (by rw [HLI.out]; exact K6.out) k7
    have hZ1 : 1 ≤ Z := by omega
    have hZ3 : Z ≤ 3 := by omega
    have hZ2 : nn + Z < 10 → Z ≤ 2 := fun hh => by have := hsm.2 (by omega); omega
    have hB : B = 46 :: List.replicate Z 48 ++ sigD I F := by
      rw [← HBD.out]
      unfold body
      have := HC1.out
      rw [HNN.out, if_neg (show ¬ (nn : Int) ≤ e from by omega), HSB.out, if_neg (by simp), HLI.out, if_pos K6.out, if_pos k7, hZ]
      rfl
    have HBB := Lib.hid hB
    have HZZ := Lib.hid hZ
    clear hB hsm
    by_cases hp0 : (en : Int) - (nn : Int) + e - 1 = di
    · -- there already
      rcases HK.out with ⟨_, _, g, K⟩ | ⟨_, _, K⟩ | ⟨_, _, K⟩
      · obtain ⟨e1, e2, e3, le, pt, zz, dd⟩ := K
        have f1 : ((en : Int) - (nn : Int) + e - 1 != (di : Int)) = false := by simp; omega
        have b1 : (en : Int) ≤ 1000000 := by omega
        have b2 : (0 : Int) ≤ (en : Int) := by omega
        have hgZ : g = Z := by omega
        have HE1 := Lib.hid e1
        have HE2 := Lib.hid e2
        have HPT := Lib.hid pt
        have HZ4 := Lib.hid zz
        have HDD := Lib.hid dd
        have HGZ := Lib.hid hgZ
        clear e1 e2 e3 pt zz dd he hZ hp0 hgZ
        go_wp2_with fail
        go_meet
        case rel =>
          have e2 := HE2.out
          have hgZ := HGZ.out
          have hnn := HNN.out
          refine ⟨st, en, xs, rfl, rfl, HB.out, Onl.refl _ _, HL.out, HNG.out, ?_, by omega, ?_⟩
          · rw [HBB.out, List.length_append, List.length_cons, List.length_replicate, hnn]; omega
          · rw [HBB.out]
            refine At.append (At.cons HPT.out (At.rep fun j hj => HZ4.out j (by omega))) (At.of hnn fun j hj => ?_)
            rw [List.length_cons, List.length_replicate, ← HDD.out j hj]
            congr 1
            omega
      · obtain ⟨e1, e2, e3, le, dd⟩ := K
        exfalso; omega
      · obtain ⟨e1, e2, e3, e4, le, pt, d1, d2⟩ := K
        exfalso; omega
    · obtain ⟨p, hp⟩ : ∃ p : Int, (en : Int) - (nn : Int) + e - 1 = p := ⟨_, rfl⟩
      obtain ⟨d, hd⟩ : ∃ d : Int, (st : Int) - p = d := ⟨_, rfl⟩
      have hpd : p ≠ di := by omega
      have f1 : (p != (di : Int)) = true := by simp; omega
      have b1 : (en : Int) ≤ 1000000 := by
        rcases HK.out with ⟨_, _, g, K⟩ | ⟨_, _, K⟩ | ⟨_, _, K⟩
        · have := K.le; omega
        · have := K.le; have := K.e2; omega
        · have := K.le; omega
      have b2 : (0 : Int) ≤ (en : Int) := by omega
      have HP := Lib.hid hp
      have HD := Lib.hid hd
      clear hp0 hpd he hZ
      go_upto_if 621 with (fail)
      clear hp hd f1
      go_cut [6, 8, 27, 28, 29] from 600 to 671 (fun v6 v8 v27 v28 v29 wc => ∃ (a b : Nat) (ys : List Int), v6 = .int .i64 (a : Nat) ∧ v8 = .int .i64 (b : Nat) ∧ v27 = .int .i64 (Z : Nat) ∧ v28 = .int .i64 (a : Nat) ∧ BufO wc h o pre ys tail ∧ Onl h w wc ∧ ys.length = N ∧ (neg = true → 1 ≤ a) ∧ b = a + 1 + Z + nn ∧ b ≤ N ∧ At ys (a + 1 + Z) (sigD I F))
      case first =>
        have he := HE.out
        have hZ := HZZ.out
        have hp := HP.out
        have hd := HD.out
        rcases HK.out with ⟨_, _, g, K⟩ | ⟨_, _, K⟩ | ⟨_, _, K⟩
        · obtain ⟨e1, e2, e3, le, pt, zz, dd⟩ := K
          have hdd : d = -ev := by omega
          by_cases h0 : ev < 0
          · obtain ⟨D, hD⟩ : ∃ D : Nat, d = (D : Int) := ⟨d.toNat, by omega⟩
            subst hD
            have hroom := HEL.out.1 h0
            have hdl := dl_pos (-ev)
            have k1 : (0 : Int) < (D : Int) := by omega
            have k2 : (di : Int) < (en : Int) := by omega
            have k3 : ¬ (st : Int) < (di : Int) := by omega
            have hgZ : g + D = Z := by omega
            have hDN : en + D ≤ N := by omega
            have hde : di + 1 ≤ en := by omega
            have HE1 := Lib.hid e1
            have HE2 := Lib.hid e2
            have HDD := Lib.hid dd
            have HGZ := Lib.hid hgZ
            clear hroom hdl
            have hcl := cut_length (xs) (di + 1) (di + 1 + (en - (di + 1))) (by omega) (by rw [HL.out]; omega)
            rw [show di + 1 + (en - (di + 1)) - (di + 1) = en - (di + 1) from by omega] at hcl
            have HCL := Lib.hid hcl
            have hmv : (moved (xs) (di + 1 + D) (di + 1) (en - (di + 1))).length = N := by rw [moved_length (by rw [HL.out]; omega) (by rw [HL.out]; omega)]; exact HL.out
            have HMV := Lib.hid hmv
            have hget := fun k => moved_get (xs := xs) (o := di + 1 + D) (s := di + 1) (n := en - (di + 1)) (by rw [HL.out]; omega) (by rw [HL.out]; omega) k
            have HGT := Lib.hid hget
            clear hcl hmv hget
            have s5a : (0 : Int) ≤ (di : Int) + 1 + (D : Int) := by omega
            have s5b : (di : Int) + 1 + (D : Int) ≤ (N : Int) := by omega
            have s5c : (N : Int) ≤ (cap : Int) := by omega
            have s5d : ¬ cap = di + 1 + D := by omega
            have s5e : IntKind.i64.wrap ((di : Int) + 1 + (D : Int)) = (di : Int) + 1 + (D : Int) := IntWalk.i64_in _ (by omega)
            have s5f : ((di : Int) + 1 + (D : Int)).toNat = di + 1 + D := by omega
            have s6a : (0 : Int) ≤ (di : Int) + 1 := by omega
            have s6b : (di : Int) + 1 ≤ (en : Int) := by omega
            have s6c : (en : Int) ≤ (cap : Int) := by omega
            have s6d : ¬ cap = di + 1 := by omega
            have s6e : IntKind.i64.wrap ((di : Int) + 1) = (di : Int) + 1 := IntWalk.i64_in _ (by omega)
            have s6f : ((di : Int) + 1).toNat = di + 1 := by omega

            clear e1 e2 e3 pt zz dd he hZ hp hd hdd hgZ h0
            go_wp2_with fail
            go_region_law (refine step_copy_only rfl (.tmp 630) (.tmp 635) 44 44 rfl 5 Tryz.underlying44 size_u8 (some ⟨h, o + (di + 1 + D), none⟩) (some ⟨h, o + (di + 1), none⟩) (N - (di + 1 + D)) (cap - (di + 1 + D)) (en - (di + 1)) (cap - (di + 1)) (by simp [Act.eval, Act.put]) (by simp [Act.eval, Act.put]) h (o + (di + 1 + D)) _ _ HB.out.2 ((cut xs (di + 1) (di + 1 + (en - (di + 1)))).map (Value.int .u8)) (by rw [List.length_map, HCL.out]; exact (Nat.min_eq_left (by omega)).symm) (fun _ => ⟨rfl, ⟨h, o + (di + 1), none⟩, rfl, HB.out.src (di + 1) (en - (di + 1)) (by rw [HL.out]; omega)⟩) (by simp only [List.length_map, List.length_append]; have := HB.out.1; have := HL.out; rw [HCL.out]; omega) (one_cells _) h w (Onl.refl _ _).drew (Nat.le_refl _) ?_; intro w4 hg4 hb4)
            have hbw4 : BufO w4 h o pre (moved xs (di + 1 + D) (di + 1) (en - (di + 1))) tail := BufO.moved HB.out.1 (by rw [HL.out]; omega) (by rw [HL.out]; omega) hg4.out
            have HBW4 := Lib.hid hbw4
            have HB4 := Lib.hid hb4
            clear hg4 hb4 hbw4

            go_wp2_with fail
            go_meet
            case rel =>
              have e1 := HE1.out
              have e2 := HE2.out
              have hgZ := HGZ.out
              refine ⟨st, en + D, _, rfl, (by first | rfl | go_num | (congr 1; omega)), by rw [HZZ.out], rfl, HBW4.out, HB4.out, HMV.out, HNG.out, by omega, by omega, At.of HNN.out fun j hj => ?_⟩
              rw [HGT.out, if_pos (by omega), ← HDD.out j hj]
              congr 1
              omega
          · obtain ⟨D, hD⟩ : ∃ D : Nat, ev = (D : Int) := ⟨ev.toNat, by omega⟩
            have k1 : ¬ (0 : Int) < d := by omega
            have hgZ : g = D + Z := by omega
            have ha : (st : Int) - d = ((st + D : Nat) : Int) := by omega
            have HAA := Lib.hid ha
            have HE2 := Lib.hid e2
            have HDD := Lib.hid dd
            have HGZ := Lib.hid hgZ
            have b3 : -1000 ≤ d := by omega
            have b4 : (st : Int) ≤ 1000000 := by omega
            clear e1 e2 e3 pt zz dd he hZ hp hd hdd hgZ h0 hD ha
            go_wp2_with fail
            go_meet
            case rel =>
              have e2 := HE2.out
              have hgZ := HGZ.out
              have ha := HAA.out
              have hp := HP.out
              have hd := HD.out
              refine ⟨st + D, en, xs, (by first | rfl | go_num | (congr 1; omega)), rfl, by rw [HZZ.out], (by first | rfl | go_num | (congr 1; omega)), HB.out, Onl.refl _ _, HL.out, fun hn => by have := HNG.out hn; omega, by omega, by omega, At.of HNN.out fun j hj => ?_⟩
              rw [← HDD.out j hj]
              congr 1
              omega
        · obtain ⟨e1, e2, e3, le, dd⟩ := K
          obtain ⟨D, hD⟩ : ∃ D : Nat, d = (D : Int) := ⟨d.toNat, by omega⟩
          subst hD
          have hDZ : D = Z + 1 := by omega
          have hroom := room3_b (nn := nn) (Z := Z) (r := di - st) (ev := ev) (X := N - n) (by have := HEL.out.1; omega) hZ3 hZ2 (by omega) (by omega) hZ1
          have k1 : (0 : Int) < (D : Int) := by omega
          have k2 : ¬ (di : Int) < (en : Int) := by omega
          have k3 : (st : Int) < (di : Int) := by omega
          have hDN : di + D ≤ N := by omega
          have hsd : st ≤ di := by omega
          have hoo : st + D + (di - st) ≤ N := by omega
          have HE1 := Lib.hid e1
          have HE2 := Lib.hid e2
          have HDD := Lib.hid dd
          have HGZ := Lib.hid hDZ
          clear hroom
          have hcl := cut_length (xs) (st) (st + (di - st)) (by omega) (by rw [HL.out]; omega)
          rw [show st + (di - st) - (st) = di - st from by omega] at hcl
          have HCL := Lib.hid hcl
          have hmv : (moved (xs) (st + D) (st) (di - st)).length = N := by rw [moved_length (by rw [HL.out]; omega) (by rw [HL.out]; omega)]; exact HL.out
          have HMV := Lib.hid hmv
          have hget := fun k => moved_get (xs := xs) (o := st + D) (s := st) (n := di - st) (by rw [HL.out]; omega) (by rw [HL.out]; omega) k
          have HGT := Lib.hid hget
          clear hcl hmv hget
          have s7a : (0 : Int) ≤ (st : Int) + (D : Int) := by omega
          have s7b : (st : Int) + (D : Int) ≤ (N : Int) := by omega
          have s7c : (N : Int) ≤ (cap : Int) := by omega
          have s7d : ¬ cap = st + D := by omega
          have s7e : IntKind.i64.wrap ((st : Int) + (D : Int)) = (st : Int) + (D : Int) := IntWalk.i64_in _ (by omega)
          have s7f : ((st : Int) + (D : Int)).toNat = st + D := by omega
          have s8a : (0 : Int) ≤ (st : Int) := by omega
          have s8b : (st : Int) ≤ (di : Int) := by omega
          have s8c : (di : Int) ≤ (cap : Int) := by omega
          have s8d : ¬ cap = st := by omega
          have s8e : IntKind.i64.wrap ((st : Int)) = (st : Int) := IntWalk.i64_in _ (by omega)
          have s8f : ((st : Int)).toNat = st := by omega

          clear e1 e2 e3 dd he hZ hp hd hDZ
          go_wp2_with fail
          go_region_law (refine step_copy_only rfl (.tmp 658) (.tmp 662) 44 44 rfl 5 Tryz.underlying44 size_u8 (some ⟨h, o + (st + D), none⟩) (some ⟨h, o + st, none⟩) (N - (st + D)) (cap - (st + D)) (di - st) (cap - (st)) (by simp [Act.eval, Act.put]) (by simp [Act.eval, Act.put]) h (o + (st + D)) _ _ HB.out.2 ((cut xs (st) (st + (di - st))).map (Value.int .u8)) (by rw [List.length_map, HCL.out]; exact (Nat.min_eq_left (by omega)).symm) (fun _ => ⟨rfl, ⟨h, o + st, none⟩, rfl, HB.out.src (st) (di - st) (by rw [HL.out]; omega)⟩) (by simp only [List.length_map, List.length_append]; have := HB.out.1; have := HL.out; rw [HCL.out]; omega) (one_cells _) h w (Onl.refl _ _).drew (Nat.le_refl _) ?_; intro w4 hg4 hb4)
          have hbw4 : BufO w4 h o pre (moved xs (st + D) (st) (di - st)) tail := BufO.moved HB.out.1 (by rw [HL.out]; omega) (by rw [HL.out]; omega) hg4.out
          have HBW4 := Lib.hid hbw4
          have HB4 := Lib.hid hb4
          clear hg4 hb4 hbw4

          go_wp2_with fail
          go_meet
          case rel =>
            have e1 := HE1.out
            have e2 := HE2.out
            have hgZ := HGZ.out
            refine ⟨st, en + D, _, rfl, (by first | rfl | go_num | (congr 1; omega)), by rw [HZZ.out], rfl, HBW4.out, HB4.out, HMV.out, HNG.out, by omega, by omega, At.of HNN.out fun j hj => ?_⟩
            rw [HGT.out, if_pos (by omega), ← HDD.out j hj]
            congr 1
            omega
        · obtain ⟨e1, e2, e3, e4, le, pt, d1, d2⟩ := K
          obtain ⟨D, hD⟩ : ∃ D : Nat, d = (D : Int) := ⟨d.toNat, by omega⟩
          subst hD
          have hDZ : D = Z := by omega
          have hroom := HEL.out.1 (by omega)
          have hdl := dl_pos (-ev)
          have k1 : (0 : Int) < (D : Int) := by omega
          have k2 : (di : Int) < (en : Int) := by omega
          have k3 : (st : Int) < (di : Int) := by omega
          have hDN : en + D ≤ N := by omega
          have hsd : st ≤ di := by omega
          have hde : di + 1 ≤ en := by omega
          have hoo : st + D + 1 + (di - st) ≤ N := by omega
          have HE4 := Lib.hid e4
          have HD1 := Lib.hid d1
          have HD2 := Lib.hid d2
          have HGZ := Lib.hid hDZ
          clear hroom hdl
          have hcl := cut_length (xs) (di + 1) (di + 1 + (en - (di + 1))) (by omega) (by rw [HL.out]; omega)
          rw [show di + 1 + (en - (di + 1)) - (di + 1) = en - (di + 1) from by omega] at hcl
          have HCL := Lib.hid hcl
          have hmv : (moved (xs) (di + 1 + D) (di + 1) (en - (di + 1))).length = N := by rw [moved_length (by rw [HL.out]; omega) (by rw [HL.out]; omega)]; exact HL.out
          have HMV := Lib.hid hmv
          have hget := fun k => moved_get (xs := xs) (o := di + 1 + D) (s := di + 1) (n := en - (di + 1)) (by rw [HL.out]; omega) (by rw [HL.out]; omega) k
          have HGT := Lib.hid hget
          clear hcl hmv hget
          have hcl5 := cut_length (moved xs (di + 1 + D) (di + 1) (en - (di + 1))) (st) (st + (di - st)) (by omega) (by rw [HMV.out]; omega)
          rw [show st + (di - st) - (st) = di - st from by omega] at hcl5
          have HCL5 := Lib.hid hcl5
          have hmv5 : (moved (moved xs (di + 1 + D) (di + 1) (en - (di + 1))) (st + D + 1) (st) (di - st)).length = N := by rw [moved_length (by rw [HMV.out]; omega) (by rw [HMV.out]; omega)]; exact HMV.out
          have HMV5 := Lib.hid hmv5
          have hget5 := fun k => moved_get (xs := moved xs (di + 1 + D) (di + 1) (en - (di + 1))) (o := st + D + 1) (s := st) (n := di - st) (by rw [HMV.out]; omega) (by rw [HMV.out]; omega) k
          have HGT5 := Lib.hid hget5
          clear hcl5 hmv5 hget5
          have s0e : IntKind.i64.wrap ((st : Int) + (D : Int)) = (st : Int) + (D : Int) := IntWalk.i64_in _ (by omega)
          have s9a : (0 : Int) ≤ (di : Int) + 1 + (D : Int) := by omega
          have s9b : (di : Int) + 1 + (D : Int) ≤ (N : Int) := by omega
          have s9c : (N : Int) ≤ (cap : Int) := by omega
          have s9d : ¬ cap = di + 1 + D := by omega
          have s9e : IntKind.i64.wrap ((di : Int) + 1 + (D : Int)) = (di : Int) + 1 + (D : Int) := IntWalk.i64_in _ (by omega)
          have s9f : ((di : Int) + 1 + (D : Int)).toNat = di + 1 + D := by omega
          have s10a : (0 : Int) ≤ (di : Int) + 1 := by omega
          have s10b : (di : Int) + 1 ≤ (en : Int) := by omega
          have s10c : (en : Int) ≤ (cap : Int) := by omega
          have s10d : ¬ cap = di + 1 := by omega
          have s10e : IntKind.i64.wrap ((di : Int) + 1) = (di : Int) + 1 := IntWalk.i64_in _ (by omega)
          have s10f : ((di : Int) + 1).toNat = di + 1 := by omega
          have s11a : (0 : Int) ≤ (st : Int) + (D : Int) + 1 := by omega
          have s11b : (st : Int) + (D : Int) + 1 ≤ (N : Int) := by omega
          have s11c : (N : Int) ≤ (cap : Int) := by omega
          have s11d : ¬ cap = st + D + 1 := by omega
          have s11e : IntKind.i64.wrap ((st : Int) + (D : Int) + 1) = (st : Int) + (D : Int) + 1 := IntWalk.i64_in _ (by omega)
          have s11f : ((st : Int) + (D : Int) + 1).toNat = st + D + 1 := by omega
          have s12a : (0 : Int) ≤ (st : Int) := by omega
          have s12b : (st : Int) ≤ (di : Int) := by omega
          have s12c : (di : Int) ≤ (cap : Int) := by omega
          have s12d : ¬ cap = st := by omega
          have s12e : IntKind.i64.wrap ((st : Int)) = (st : Int) := IntWalk.i64_in _ (by omega)
          have s12f : ((st : Int)).toNat = st := by omega

          clear e3 e4 pt d1 d2 he hZ hp hd hDZ
          go_wp2_with fail
          go_region_law (refine step_copy_only rfl (.tmp 630) (.tmp 635) 44 44 rfl 5 Tryz.underlying44 size_u8 (some ⟨h, o + (di + 1 + D), none⟩) (some ⟨h, o + (di + 1), none⟩) (N - (di + 1 + D)) (cap - (di + 1 + D)) (en - (di + 1)) (cap - (di + 1)) (by simp [Act.eval, Act.put]) (by simp [Act.eval, Act.put]) h (o + (di + 1 + D)) _ _ HB.out.2 ((cut xs (di + 1) (di + 1 + (en - (di + 1)))).map (Value.int .u8)) (by rw [List.length_map, HCL.out]; exact (Nat.min_eq_left (by omega)).symm) (fun _ => ⟨rfl, ⟨h, o + (di + 1), none⟩, rfl, HB.out.src (di + 1) (en - (di + 1)) (by rw [HL.out]; omega)⟩) (by simp only [List.length_map, List.length_append]; have := HB.out.1; have := HL.out; rw [HCL.out]; omega) (one_cells _) h w (Onl.refl _ _).drew (Nat.le_refl _) ?_; intro w4 hg4 hb4)
          have hbw4 : BufO w4 h o pre (moved xs (di + 1 + D) (di + 1) (en - (di + 1))) tail := BufO.moved HB.out.1 (by rw [HL.out]; omega) (by rw [HL.out]; omega) hg4.out
          have HBW4 := Lib.hid hbw4
          have HB4 := Lib.hid hb4
          clear hg4 hb4 hbw4

          go_wp2_with fail
          go_region_law (refine step_copy_only rfl (.tmp 645) (.tmp 649) 44 44 rfl 5 Tryz.underlying44 size_u8 (some ⟨h, o + (st + D + 1), none⟩) (some ⟨h, o + st, none⟩) (N - (st + D + 1)) (cap - (st + D + 1)) (di - st) (cap - (st)) (by simp [Act.eval, Act.put]) (by simp [Act.eval, Act.put]) h (o + (st + D + 1)) _ _ HBW4.out.2 ((cut (moved xs (di + 1 + D) (di + 1) (en - (di + 1))) (st) (st + (di - st))).map (Value.int .u8)) (by rw [List.length_map, HCL5.out]; exact (Nat.min_eq_left (by omega)).symm) (fun _ => ⟨rfl, ⟨h, o + st, none⟩, rfl, HBW4.out.src (st) (di - st) (by rw [HMV.out]; omega)⟩) (by simp only [List.length_map, List.length_append]; have := HBW4.out.1; have := HMV.out; rw [HCL5.out]; omega) (one_cells _) h w HB4.out.drew (Nat.le_refl _) ?_; intro w5 hg5 hb5)
          have hbw5 : BufO w5 h o pre (moved (moved xs (di + 1 + D) (di + 1) (en - (di + 1))) (st + D + 1) (st) (di - st)) tail := BufO.moved HBW4.out.1 (by rw [HMV.out]; omega) (by rw [HMV.out]; omega) hg5.out
          have HBW5 := Lib.hid hbw5
          have HB5 := Lib.hid hb5
          clear hg5 hb5 hbw5

          go_wp2_with fail
          go_meet
          case rel =>
            have e4 := HE4.out
            have hgZ := HGZ.out
            refine ⟨st, en + D, _, rfl, (by first | rfl | go_num | (congr 1; omega)), by rw [HZZ.out], rfl, HBW5.out, HB5.out, HMV5.out, HNG.out, by omega, by omega, At.of HNN.out fun j hj => ?_⟩
            rw [HGT5.out]
            split
            · rw [HGT.out, if_neg (by omega), ← HD1.out j (by omega)]
              congr 1
              omega
            · rw [HGT.out, if_pos (by omega), show j = di - st + (j - (di - st)) from by omega, ← HD2.out _ (by omega)]
              congr 1
              omega
      case rest =>
        obtain ⟨a, b, ys, rfl, rfl, rfl, rfl, hbw, hbl, hyl, hna, hba, hbN, hat⟩ := hcut
        have hs := hbw.set a (by rw [hyl]; omega) 46
        have hfz := hbw.frozen a
        have hcz := hbw.cell a (by rw [hyl]; omega)
        have haN : a < N := by omega
        have hbl2 := hbl.setCell (p := ⟨h, o + a, none⟩) rfl (.int .u8 46)
        have hsl : (ys.set a 46).length = N := by rw [List.length_set]; exact hyl
        have hsa : At (ys.set a 46) (a + 1 + Z) (sigD I F) := At.of HNN.out fun j hj => by
          rw [set_get (by omega), if_neg (by omega)]
          exact hat j (by rw [HNN.out]; exact hj)
        have hs0 : (ys.set a 46).getD a 0 = 46 := by rw [set_get (by omega), if_pos rfl]
        have HS := Lib.hid hs
        have HBL2 := Lib.hid hbl2
        have HSL := Lib.hid hsl
        have HSA := Lib.hid hsa
        have HS0 := Lib.hid hs0
        have HBA := Lib.hid hba
        have haZ : a + 1 + Z ≤ N := by omega
        clear hs hbl2 hsl hsa hs0 hbw hbl hyl hat hba k7 b2
        go_wp2_with fail
        go_loopw [676] (fun v676 wr => ∃ (i : Nat) (zs : List Int), v676 = .int .i64 (i : Nat) ∧ i ≤ Z ∧ RowKit.Hid (BufO wr h o pre zs tail) ∧ RowKit.Hid (Onl h w wr) ∧ RowKit.Hid (zs.length = N) ∧ RowKit.Hid (zs.getD a 0 = 46) ∧ RowKit.Hid (∀ j, j < i → zs.getD (a + 1 + j) 0 = 48) ∧ RowKit.Hid (At zs (a + 1 + Z) (sigD I F))) (fun v676 _ => Z - (intOf v676).toNat)
        case atStart => exact ⟨0, _, rfl, by omega, Lib.hid HS.out, Lib.hid HBL2.out, Lib.hid HSL.out, Lib.hid HS0.out, Lib.hid (fun j hj => absurd hj (by omega)), Lib.hid HSA.out⟩
        case round =>
          obtain ⟨i, zs, rfl, hi, HZW, HZB, HZL, HZ0, HZ1, HZA⟩ := hrel
          by_cases hlt : i < Z
          · have hlt2 : (i : Int) < (Z : Int) := by omega
            have hb2 := HZW.out.set (a + 1 + i) (by rw [HZL.out]; omega) 48
            have hfz := HZW.out.frozen (a + 1 + i)
            have hcz := HZW.out.cell (a + 1 + i) (by rw [HZL.out]; omega)
            have hbN2 : a + 1 + i < N := by omega
            have HS2 := Lib.hid hb2
            clear hb2
            go_wp2_with fail
            go_roundw
            case rel =>
              have hzl := HZL.out
              refine ⟨i + 1, _, (by first | rfl | go_num | (congr 1; omega)), by omega, Lib.hid HS2.out, Lib.hid (HZB.out.setCell (p := ⟨h, o + (a + 1 + i), none⟩) rfl _), Lib.hid (by rw [List.length_set]; exact hzl), Lib.hid (by rw [set_get (by omega), if_neg (by omega)]; exact HZ0.out), Lib.hid (fun j hj => ?_), Lib.hid (At.of HNN.out fun j hj => ?_)⟩
              · rw [set_get (by omega)]
                split
                · rfl
                · exact HZ1.out j (by omega)
              · rw [set_get (by omega), if_neg (by omega)]
                exact HZA.out j (by rw [HNN.out]; exact hj)
            case measure => simp [intOf]; omega
          · have hlt2 : ¬ (i : Int) < (Z : Int) := by omega
            go_wp2_with fail
            go_meet
            case rel =>
              have hba := HBA.out
              have hnn := HNN.out
              refine ⟨a, b, zs, rfl, rfl, HZW.out, HZB.out, HZL.out, hna, ?_, hbN, ?_⟩
              · rw [HBB.out, List.length_append, List.length_cons, List.length_replicate, hnn]; omega
              · rw [HBB.out]
                refine At.append (At.cons HZ0.out (At.rep fun j hj => HZ1.out j (by omega))) ?_
                rw [List.length_cons, List.length_replicate, show a + (Z + 1) = a + 1 + Z from by omega]
                exact HZA.out
  -- ]]

theorem numCase3 (h o cap N n sl di z : Nat) (neg : Bool) (I F : List Int) (ev : Int) (pre xs : List Int) (tail : List Value) (w : World) : (numPre h o cap N n sl di z neg I F ev pre xs tail w).2.2.1 := (numRest3 h o cap N n sl di z neg I F ev pre xs tail w).2 (Kept.mk (numCase3A h o cap N n sl di z neg I F ev pre xs tail w))

end Go.Proofs.YthoekplablhgfaaGreatDoor
