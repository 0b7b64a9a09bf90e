/-
  The way of minify.Number up to its four forms.
-/
import Derived.Test.YthoekplablhgfaaGreatDoorMDig
import Derived.IntWalk
import Derived.Deep.DeepCutAuto
import Derived.Deep.CutBlock
namespace Go.Proofs.YthoekplablhgfaaGreatDoor
open Go.RowKit
set_option linter.unusedVariables false

/-- Laid aside. -/
structure Kept (R : Prop) : Prop where
  out : R

set_option maxRecDepth 1000000 in
set_option maxHeartbeats 12800000 in
noncomputable def numPre (h o cap N n sl di z : Nat) (neg : Bool) (I F : List Int) (ev : Int) (pre xs : List Int) (tail : List Value) (w : World) : (R1 : Prop) ×' (R2 : Prop) ×' (R3 : Prop) ×' (R4 : Prop) ×' (Kept R1 → Kept R2 → Kept R3 → Kept R4 → BufO w h o pre xs tail → NumAt xs N n sl di z neg I F ev → N ≤ cap → N ≤ 1000000 → Calls Tryz.prog 40 #[.slice (some ⟨h, o, none⟩) N cap, .int .i64 0] w (NumPost h o cap N (numR xs neg I F ev) pre tail w)) := by
  apply PSigma.mk
  apply PSigma.mk
  apply PSigma.mk
  apply PSigma.mk
  focus
    intro r1 r2 r3 r4 hb hd hcap hmax
    have HKD := Lib.hid (kinds hd)
    obtain ⟨len, nN, two, sl1, sign, dil, dot, nodot, mant, hz, zero, zend, hI, hF, hmle, mzero, mend, iat, fat, noexp, exp, evb, evl⟩ := hd
    have hcell : ∀ k, k < N → w.cell? ⟨h, o + k, none⟩ = some (.int .u8 (xs.getD k 0)) := fun k hk => hb.cell k (by omega)
    have hNn : n < N ∨ n = N := by omega
    obtain ⟨m, hmF⟩ : ∃ m, F.length = m := ⟨_, rfl⟩
    rw [hmF] at hmle mzero mend fat
    have hdin : di ≤ n := by omega
    have HB := Lib.hid hb
    have HL := Lib.hid len
    have HSG := Lib.hid sign
    have HDOT := Lib.hid dot
    have HMAN := Lib.hid mant
    have HZERO := Lib.hid zero
    have HZEND := Lib.hid zend
    have HMZ := Lib.hid mzero
    have HME := Lib.hid mend
    have HC := Lib.hid hcell
    have HND := Lib.hid nodot
    have HI := Lib.hid hI
    have HF := Lib.hid hF
    have HMF := Lib.hid hmF
    have HIA := Lib.hid iat
    have HFA := Lib.hid fat
    have HNE := Lib.hid noexp
    have HEX := Lib.hid exp
    have HEL := Lib.hid evl
    clear hb len sign dot mant zero zend mzero mend hcell nodot hI hF hmF iat fat noexp exp evl
    obtain ⟨ev0, ev1⟩ := evb
    have i0 : (0 : Int) < (N : Int) := by omega
    go_enter Tryz.func40, Tryz.ntmps40
    go_upto_region 8 with (fail)
    go_cut [51] from 42 to 51 (fun v51 wc => ∃ sb : Bool, v51 = .bool sb ∧ (sb = true ↔ sl = 1) ∧ w = wc)
    case first =>
      -- [[
      as_aux_lemma =>
        have c0 := HC.out 0 (by omega)
        rw [Nat.add_zero] at c0
        obtain ⟨c, hcd⟩ : ∃ c, xs.getD 0 0 = c := ⟨_, rfl⟩
        rw [hcd] at c0
        by_cases h1 : sl = 1
        · rcases HSG.out.1 h1 with ⟨hc, hn⟩ | ⟨hc, hn⟩
          · rw [hcd] at hc
            subst hc
            have HCD := Lib.hid hcd
            clear hcd hn
            go_wp2_with fail
            go_meet
            case rel => exact ⟨true, rfl, by simp [h1], rfl⟩
          · rw [hcd] at hc
            subst hc
            have HCD := Lib.hid hcd
            clear hcd hn
            go_wp2_with fail
            go_meet
            case rel => exact ⟨true, rfl, by simp [h1], rfl⟩
        · obtain ⟨_, e1, e2⟩ := HSG.out.2 (by omega)
          rw [hcd] at e1 e2
          have f1 : (c == 45) = false := by simpa using e1
          have f2 : (c == 43) = false := by simpa using e2
          clear hcd e1 e2
          go_wp2_with fail
          go_meet
          case rel => exact ⟨false, rfl, by simp [h1], rfl⟩
      -- ]]
    case rest =>
      obtain ⟨sb, rfl, hsb, rfl⟩ := hcut
      have HSB := Lib.hid hsb
      clear hsb
      go_upto_if 51 with (fail)
      go_cut [5, 6] from 52 to 57 (fun v5 v6 wc => v5 = .bool neg ∧ v6 = .int .i64 (sl : Nat) ∧ w = wc)
      case first =>
        -- [[
        as_aux_lemma =>
          have c0 := HC.out 0 (by omega)
          rw [Nat.add_zero] at c0
          obtain ⟨c, hcd⟩ : ∃ c, xs.getD 0 0 = c := ⟨_, rfl⟩
          rw [hcd] at c0
          cases sb with
          | true =>
            have h1 : sl = 1 := HSB.out.1 rfl
            rcases HSG.out.1 h1 with ⟨hc, hn⟩ | ⟨hc, hn⟩
            · rw [hcd] at hc
              subst hc
              have HCD := Lib.hid hcd
              have HN := Lib.hid hn
              have H1 := Lib.hid h1
              clear hcd hn h1
              go_wp2_with fail
              go_meet
              case rel => exact ⟨by rw [HN.out], by rw [H1.out]; rfl, rfl⟩
            · rw [hcd] at hc
              subst hc
              have HCD := Lib.hid hcd
              have HN := Lib.hid hn
              have H1 := Lib.hid h1
              clear hcd hn h1
              go_wp2_with fail
              go_meet
              case rel => exact ⟨by rw [HN.out], by rw [H1.out]; rfl, rfl⟩
          | false =>
            have h1 : ¬ sl = 1 := fun hh => by have := HSB.out.2 hh; cases this
            obtain ⟨hn, _, _⟩ := HSG.out.2 (by omega)
            have h0 : sl = 0 := by omega
            have HN := Lib.hid hn
            have H0 := Lib.hid h0
            clear hcd hn h0 h1
            go_wp2_with fail
            go_meet
            case rel => exact ⟨by rw [HN.out], by rw [H0.out]; rfl, rfl⟩
        -- ]]
      case rest =>
        obtain ⟨rfl, rfl, rfl⟩ := hcut
        have HSLN : sl ≤ n := by omega
        go_upto_block 0 with (fail)
        go_cut [7, 8, 9] from 10 to 117 (fun v7 v8 v9 wc => v7 = .int .i64 (if di < n then (di : Int) else -1) ∧ v8 = .int .i64 (n : Nat) ∧ v9 = .int .i64 ev ∧ w = wc)
        case first =>
          -- [[
          as_aux_lemma =>
            have j0 : (0 : Int) ≤ (sl : Int) := by omega
            have j1 : (sl : Int) ≤ (N : Int) := by omega
            have j2 : (N : Int) ≤ (cap : Int) := by omega
            have j3 : ¬ cap = sl := by omega
            go_wp2_with fail
            go_loopw [7, 8, 9, 62] (fun v7 v8 v9 v62 wr => ∃ k : Nat, sl + k ≤ n ∧ v62 = .int .i64 (k : Nat) ∧ v7 = .int .i64 (if di < sl + k then (di : Int) else -1) ∧ v8 = .int .i64 (N : Nat) ∧ v9 = .int .i64 0 ∧ w = wr) (fun _ _ _ v62 _ => N - (intOf v62).toNat)
            case atStart => exact ⟨0, by omega, rfl, by rw [if_neg (by omega)], rfl, rfl, (by first | rfl | trivial)⟩
            case round =>
              obtain ⟨k, hk, rfl, rfl, rfl, rfl, rfl⟩ := hrel
              obtain ⟨dv, hdv⟩ : ∃ dv, (if di < sl + k then (di : Int) else -1) = dv := ⟨_, rfl⟩
              rw [hdv]
              have HDV := Lib.hid hdv
              clear hdv
              by_cases hlt : sl + k < n
              · have c0 := HC.out (sl + k) (by omega)
                rw [← Nat.add_assoc] at c0
                obtain ⟨c, hcd⟩ : ∃ c, xs.getD (sl + k) 0 = c := ⟨_, rfl⟩
                rw [hcd] at c0
                have hltN : sl + k < N := by omega
                by_cases hdi : sl + k = di
                · have h46 := HDOT.out (by omega)
                  rw [← hdi, hcd] at h46
                  have hif : (if di < sl + (k + 1) then (di : Int) else -1) = (sl : Int) + (k : Int) := by rw [if_pos (by omega)]; omega
                  have HIF := Lib.hid hif
                  obtain ⟨rfl, _⟩ := h46
                  clear hcd hif hdi
                  go_wp2_with fail
                  go_roundw
                  case rel => exact ⟨k + 1, by omega, by go_num, by rw [HIF.out], rfl, rfl, (by first | rfl | trivial)⟩
                  case measure => simp [intOf]; omega
                · have hne := HMAN.out (sl + k) (by omega) (by omega) hdi
                  rw [hcd] at hne
                  have e1 : (c == 46) = false := by simp; omega
                  have e2 : (c == 101) = false := by simp; omega
                  have e3 : (c == 69) = false := by simp; omega
                  have hif : (if di < sl + (k + 1) then (di : Int) else -1) = dv := by
                    rw [← HDV.out]
                    by_cases hh : di < sl + k
                    · rw [if_pos hh, if_pos (by omega)]
                    · rw [if_neg hh, if_neg (by omega)]
                  have HIF := Lib.hid hif
                  clear hcd hne hif
                  go_wp2_with fail
                  go_roundw
                  case rel => exact ⟨k + 1, by omega, by go_num, by rw [HIF.out], rfl, rfl, (by first | rfl | trivial)⟩
                  case measure => simp [intOf]; omega
              · have hkn : sl + k = n := by omega
                have hif : (if di < n then (di : Int) else -1) = dv := by rw [← HDV.out, hkn]
                have HIF := Lib.hid hif
                have hnk : (n : Int) = (sl : Int) + (k : Int) := by omega
                have HNK := Lib.hid hnk
                clear hif hnk
                rcases hNn with hNn | hNn
                · obtain ⟨he, p, q, c, hNe, hp, hp1, hp0, hq, hq1, hc1, hc3, hdg, hev⟩ := HEX.out hNn
                  have c0 := HC.out n (by omega)
                  rw [← hkn] at c0 he
                  rw [← Nat.add_assoc] at c0
                  have hN1 : n + 1 < N := by omega
                  have c1 := HC.out (n + 1) hN1
                  rw [← hkn] at c1
                  have HP := ParseInt_off h o (n + 1 + p) (cap - (n + 1 + p)) (q + c) q c pre xs tail w HB.out (by rw [HL.out]; omega) (by omega) rfl hq hq1 hc1 hc3 hdg
                  rw [show (if q = 1 then -natAt xs (n + 1 + p + q) c else natAt xs (n + 1 + p + q) c) = ev from hev.symm] at HP
                  have HPH := Lib.hid HP
                  have HEV := Lib.hid hev
                  have hlk : sl + k < N := by omega
                  have hpc : (0 : Int) < ((q + c : Nat) : Int) := by omega
                  have hNc : N - (n + 1 + p) = q + c := by omega
                  have g1 : (0 : Int) ≤ (sl : Int) + (k : Int) + 1 + (p : Int) := by omega
                  have g2 : (sl : Int) + (k : Int) + 1 + (p : Int) ≤ (N : Int) := by omega
                  have HNC := Lib.hid hNc
                  have HPP := Lib.hid hp1
                  have HPO := Lib.hid hp0
                  have hcs : ¬ cap = n + 1 + p := by omega
                  have hpq : p = 0 ∨ p = 1 := by omega
                  clear HP hev hdg hNe hq1 hp1 hp0 hNc
                  have hkk : k < N - sl := by omega
                  obtain ⟨y, hy⟩ : ∃ y, xs.getD (n + 1) 0 = y := ⟨_, rfl⟩
                  have HY := Lib.hid hy
                  have ea : sl + k + 1 = k + (sl + 1) := by omega
                  rw [ea, ← ea, hkn, hy, ← hkn, ea] at c1
                  have hlt2 : k + (sl + 1) < N := by omega
                  obtain ⟨x, hx⟩ : ∃ x, xs.getD (sl + k) 0 = x := ⟨_, rfl⟩
                  rw [hx] at c0 he
                  have HKN := Lib.hid hkn
                  clear hy hx hNn ea
                  rcases hpq with rfl | rfl
                  · have hy43 := HPO.out rfl
                    rw [HY.out] at hy43
                    have e43 : (y == 43) = false := by simpa using hy43
                    have hP := HPH.out
                    have hnc := HNC.out
                    have ht0 : n + 1 + 0 = k + (sl + 1) := by omega
                    rw [ht0] at hP hnc
                    rw [← hnc] at hP
                    have HP1 := Lib.hid hP
                    have hpos : (0 : Int) < ((N - (k + (sl + 1)) : Nat) : Int) := by omega
                    have g3 : (0 : Int) ≤ (k : Int) + ((sl : Int) + 1) := by omega
                    have g4 : (k : Int) + ((sl : Int) + 1) ≤ (N : Int) := by omega
                    have g5 : ¬ cap = k + (sl + 1) := by omega
                    clear hy43 hP hnc ht0 hkn HPH g1 g2 hpc hcs
                    rcases he with rfl | rfl
                    · go_wp2_with fail
                      refine (HP1.out).mono ?_
                      rintro e w2 ⟨rfl, rfl⟩
                      go_wp2_with fail
                      go_meet
                      case rel => exact ⟨by rw [HIF.out], by rw [HNK.out], rfl, (by first | rfl | trivial)⟩
                    · go_wp2_with fail
                      refine (HP1.out).mono ?_
                      rintro e w2 ⟨rfl, rfl⟩
                      go_wp2_with fail
                      go_meet
                      case rel => exact ⟨by rw [HIF.out], by rw [HNK.out], rfl, (by first | rfl | trivial)⟩
                  · have hy43 := HPP.out rfl
                    rw [HY.out] at hy43
                    have hP := HPH.out
                    have hnc := HNC.out
                    have ht0 : n + 1 + 1 = k + (sl + 1) + 1 := by omega
                    rw [ht0] at hP hnc
                    rw [← hnc] at hP
                    have HP1 := Lib.hid hP
                    have hpos : (0 : Int) < ((N - (k + (sl + 1) + 1) : Nat) : Int) := by omega
                    have g3 : (0 : Int) ≤ (k : Int) + ((sl : Int) + 1) + 1 := by omega
                    have g4 : (k : Int) + ((sl : Int) + 1) + 1 ≤ (N : Int) := by omega
                    have g5 : ¬ cap = k + (sl + 1) + 1 := by omega
                    clear hP hnc ht0 hkn HPH g1 g2 hpc hcs
                    subst hy43
                    rcases he with rfl | rfl
                    · go_wp2_with fail
                      refine (HP1.out).mono ?_
                      rintro e w2 ⟨rfl, rfl⟩
                      go_wp2_with fail
                      go_meet
                      case rel => exact ⟨by rw [HIF.out], by rw [HNK.out], rfl, (by first | rfl | trivial)⟩
                    · go_wp2_with fail
                      refine (HP1.out).mono ?_
                      rintro e w2 ⟨rfl, rfl⟩
                      go_wp2_with fail
                      go_meet
                      case rel => exact ⟨by rw [HIF.out], by rw [HNK.out], rfl, (by first | rfl | trivial)⟩
                · have hev := HNE.out hNn
                  have HEV := Lib.hid hev
                  have hNk : (N : Int) = (sl : Int) + (k : Int) := by omega
                  have hge : ¬ (k : Int) < (N : Int) - (sl : Int) := by omega
                  have HNn := Lib.hid hNn
                  have HKN := Lib.hid hkn
                  clear hev hNk hNn hkn
                  go_wp2_with fail
                  go_meet
                  case rel => exact ⟨by rw [HIF.out], by rw [HNn.out], by rw [HEV.out], (by first | rfl | trivial)⟩
          -- ]]
        case rest =>
          obtain ⟨rfl, rfl, rfl, rfl⟩ := hcut
          obtain ⟨dv, hdv⟩ : ∃ dv : Int, (if di < n then (di : Int) else -1) = dv := ⟨_, rfl⟩
          rw [hdv]
          have HDV := Lib.hid hdv
          clear hdv
          go_upto_if 119 with (fail)
          go_cut [7] from 118 to 120 (fun v7 wc => v7 = .int .i64 (di : Nat) ∧ w = wc)
          case first =>
            -- [[
            as_aux_lemma =>
              by_cases hdn : di < n
              · have h1 : dv = (di : Int) := by rw [← HDV.out, if_pos hdn]
                subst h1
                go_wp2_with fail
                go_meet
                case rel => exact ⟨rfl, rfl⟩
              · have h1 : dv = -1 := by rw [← HDV.out, if_neg hdn]
                have h2 : di = n := by omega
                have H2 := Lib.hid h2
                subst h1
                clear h2
                go_wp2_with fail
                go_meet
                case rel => exact ⟨by rw [H2.out], rfl⟩
            -- ]]
          case rest =>
            obtain ⟨rfl, rfl⟩ := hcut
            clear HDV
            obtain ⟨st, hst⟩ : ∃ st, (if sl + z = di ∧ di = n then n - 1 else sl + z) = st := ⟨_, rfl⟩
            have HST := Lib.hid hst
            have hst1 : st ≤ n - 1 := by
              rw [← hst]
              split
              · omega
              · rename_i hh
                rcases Nat.lt_or_ge di n with h1 | h1
                · have := HDOT.out h1; omega
                · omega
            have hst2 : sl ≤ st := by
              rw [← hst]
              split
              · have := HND.out (by omega); omega
              · omega
            have hn1 : 1 ≤ n := by
              rcases Nat.lt_or_ge di n with h1 | h1
              · omega
              · have := HND.out (by omega); omega
            clear hst
            go_upto_block 2 with (fail)
            go_cut [6] from 121 to 133 (fun v6 wc => v6 = .int .i64 (st : Nat) ∧ w = wc)
            case first =>
              -- [[
              as_aux_lemma =>
                go_wp2_with fail
                go_loopw [6] (fun v6 wr => ∃ q : Nat, sl ≤ q ∧ q ≤ st ∧ v6 = .int .i64 (q : Nat) ∧ w = wr) (fun v6 _ => n - (intOf v6).toNat)
                case atStart => exact ⟨sl, by omega, hst2, rfl, (by first | rfl | trivial)⟩
                case round =>
                  obtain ⟨q, hq0, hq1, rfl, rfl⟩ := hrel
                  have c0 := HC.out q (by omega)
                  obtain ⟨c, hcd⟩ : ∃ c, xs.getD q 0 = c := ⟨_, rfl⟩
                  rw [hcd] at c0
                  have hqN : q < N := by omega
                  by_cases hlt : q < n - 1
                  · have hlt' : (q : Int) < (n : Int) - 1 := by omega
                    by_cases h48 : c = 48
                    · have hnext : q + 1 ≤ st := by
                        rcases Nat.lt_or_ge q st with h1 | h1
                        · exact h1
                        · exfalso
                          have hqs : q = st := by omega
                          have hh := HST.out
                          rw [← hqs] at hh
                          split at hh
                          · omega
                          · rename_i hn
                            rcases Nat.lt_or_ge (sl + z) di with h2 | h2
                            · have := HZEND.out h2
                              rw [hh, hcd] at this
                              exact this h48
                            · have h3 : sl + z = di := by omega
                              have h4 : di < n := by omega
                              have := (HDOT.out h4).1
                              rw [← h3, hh, hcd, h48] at this
                              omega
                      subst h48
                      clear hcd
                      go_wp2_with fail
                      go_roundw
                      case rel => exact ⟨q + 1, by omega, hnext, by go_num, (by first | rfl | trivial)⟩
                      case measure => simp [intOf]; omega
                    · have e1 : (c == 48) = false := by simpa using h48
                      have hfin : q = st := by
                        rcases Nat.lt_or_ge q st with h1 | h1
                        · exfalso
                          have hh := HST.out
                          have hqz : q < sl + z := by split at hh <;> omega
                          have := HZERO.out q hq0 hqz
                          rw [hcd] at this
                          exact h48 this
                        · omega
                      have HFN := Lib.hid hfin
                      clear hcd hfin
                      go_wp2_with fail
                      go_meet
                      case rel => exact ⟨by rw [HFN.out], (by first | rfl | trivial)⟩
                  · have hfin : q = st := by omega
                    have HFN := Lib.hid hfin
                    have hlt' : ¬ (q : Int) < (n : Int) - 1 := by omega
                    clear hcd hfin
                    go_wp2_with fail
                    go_meet
                    case rel => exact ⟨by rw [HFN.out], (by first | rfl | trivial)⟩
              -- ]]
            case rest =>
              obtain ⟨rfl, rfl⟩ := hcut
              obtain ⟨en, hen⟩ : ∃ en, (if di < n ∧ 0 < m then di + 1 + m else n) = en := ⟨_, rfl⟩
              obtain ⟨iv, hiv⟩ : ∃ iv, (if di = n then n - 1 else di + m) = iv := ⟨_, rfl⟩
              have HEN := Lib.hid hen
              have HIV := Lib.hid hiv
              clear hen hiv
              go_upto_block 4 with (fail)
              go_cut [8, 14] from 134 to 147 (fun v8 v14 wc => v8 = .int .i64 (en : Nat) ∧ v14 = .int .i64 (iv : Nat) ∧ w = wc)
              case first =>
                -- [[
                as_aux_lemma =>
                  go_wp2_with fail
                  go_loopw [8, 14] (fun v8 v14 wr => ∃ q : Nat, iv ≤ q ∧ q ≤ n - 1 ∧ v8 = .int .i64 (n : Nat) ∧ v14 = .int .i64 (q : Nat) ∧ w = wr) (fun _ v14 _ => (intOf v14).toNat)
                  case atStart =>
                    have h1 : iv ≤ n - 1 := by
                      have h := HIV.out
                      split at h
                      · omega
                      · have := HDOT.out (by omega); omega
                    exact ⟨n - 1, h1, by omega, rfl, by rw [show ((n - 1 : Nat) : Int) = (n : Int) - 1 from by omega], (by first | rfl | trivial)⟩
                  case round =>
                    obtain ⟨q, hq0, hq1, rfl, rfl, rfl⟩ := hrel
                    have c0 := HC.out q (by omega)
                    obtain ⟨c, hcd⟩ : ∃ c, xs.getD q 0 = c := ⟨_, rfl⟩
                    rw [hcd] at c0
                    have hqN : q < N := by omega
                    by_cases hlt : di < q
                    · have hdn : di < n := by omega
                      have hivv : iv = di + m := by have h := HIV.out; rw [if_neg (by omega)] at h; exact h.symm
                      by_cases h48 : c = 48
                      · have hnext : iv ≤ q - 1 := by
                          rcases Nat.lt_or_ge iv q with h1 | h1
                          · omega
                          · exfalso
                            have hqe : q = di + m := by omega
                            have := HME.out (by omega)
                            rw [← hqe, hcd] at this
                            exact this h48
                        subst h48
                        clear hcd hivv
                        go_wp2_with fail
                        go_roundw
                        case rel => exact ⟨q - 1, hnext, by omega, rfl, by rw [show ((q - 1 : Nat) : Int) = (q : Int) - 1 from by omega], (by first | rfl | trivial)⟩
                        case measure => simp [intOf]; omega
                      · have e1 : (c == 48) = false := by simpa using h48
                        have hq : q = di + m := by
                          rcases Nat.lt_or_ge (di + m) q with h1 | h1
                          · exfalso
                            have := HMZ.out q (by omega) (by omega)
                            rw [hcd] at this
                            exact h48 this
                          · omega
                        have hm0 : 0 < m := by omega
                        have he : en = q + 1 := by have h := HEN.out; rw [if_pos ⟨hdn, hm0⟩] at h; omega
                        have hiq : iv = q := by omega
                        have HE := Lib.hid he
                        have HIQ := Lib.hid hiq
                        clear hcd hivv hq he hiq
                        go_wp2_with fail
                        go_meet
                        case rel => exact ⟨by rw [HE.out]; go_num, by rw [HIQ.out], (by first | rfl | trivial)⟩
                    · have hge : ¬ (di : Int) < (q : Int) := by omega
                      have hq : q = iv ∧ en = n := by
                        have h1 := HEN.out
                        have h2 := HIV.out
                        by_cases hdn : di = n
                        · rw [if_pos hdn] at h2
                          rw [if_neg (by omega)] at h1
                          omega
                        · rw [if_neg hdn] at h2
                          have := HDOT.out (by omega)
                          by_cases hm0 : 0 < m
                          · omega
                          · rw [if_neg (by omega)] at h1
                            omega
                      have HQ := Lib.hid hq
                      clear hcd hq
                      go_wp2_with fail
                      go_meet
                      case rel => exact ⟨by rw [HQ.out.2], by rw [HQ.out.1], (by first | rfl | trivial)⟩
                -- ]]
              case rest =>
                obtain ⟨rfl, rfl, rfl⟩ := hcut
                obtain ⟨en2, hen2⟩ : ∃ en2, (if m = 0 then di else di + 1 + m) = en2 := ⟨_, rfl⟩
                have HEN2 := Lib.hid hen2
                clear hen2
                go_upto_if 150 with (fail)
                go_cut [8] from 148 to 177 (fun v8 wc => v8 = .int .i64 (en2 : Nat) ∧ ¬ (sl + z = di ∧ m = 0) ∧ w = wc)
                case first =>
                  -- [[
                  as_aux_lemma =>
                    have hcs : st < n := by omega
                    have hcN : st < N := by omega
                    have hcst : ¬ cap = st := by omega
                    have g0 : (0 : Int) ≤ (st : Int) := by omega
                    have g1 : (st : Int) < (cap : Int) := by omega
                    have c0 := HC.out st hcN
                    by_cases hzero : sl + z = di ∧ m = 0
                    · have hR : numR xs neg I F ev = [48] := by
                        unfold numR
                        rw [if_pos ⟨List.eq_nil_of_length_eq_zero (by omega), List.eq_nil_of_length_eq_zero (by rw [HMF.out]; exact hzero.2)⟩]
                      rw [hR]
                      clear hR
                      by_cases hdn : di = n
                      · have hst' : st = n - 1 := by have h := HST.out; rw [if_pos ⟨hzero.1, hdn⟩] at h; exact h.symm
                        have hiv' : iv = n - 1 := by have h := HIV.out; rw [if_pos hdn] at h; exact h.symm
                        have hen' : en = n := by have h := HEN.out; rw [if_neg (by omega)] at h; exact h.symm
                        have hx : xs.getD st 0 = 48 := HZERO.out st (by omega) (by have := HND.out hdn; omega)
                        rw [hx] at c0
                        have f1 : ((iv : Int) == (di : Int)) = false := by simp; omega
                        obtain rfl : en = st + 1 := by omega
                        have g3 : (st : Int) + 1 ≤ (cap : Int) := by omega
                        have HX := Lib.hid hx
                        clear hx hen' hst' hiv' hdn hzero
                        go_wp2_with fail
                        go_ret
                        refine ⟨st, xs, by simp, HB.out, Onl.refl _ _, HL.out, by simp; omega, fun j hj => ?_⟩
                        obtain rfl : j = 0 := by simpa using hj
                        exact HX.out
                      · have hst' : st = di := by have h := HST.out; rw [if_neg (by omega)] at h; omega
                        have hiv' : iv = di := by have h := HIV.out; rw [if_neg hdn] at h; omega
                        have f1 : ((iv : Int) == (di : Int)) = true := by simp; omega
                        have f2 : ((st : Int) == (di : Int)) = true := by simp; omega
                        have g3 : (st : Int) + 1 ≤ (cap : Int) := by omega
                        have hfz := HB.out.frozen st
                        have hb2 := HB.out.set st (by rw [HL.out]; exact hcN) 48
                        have HB2 := Lib.hid hb2
                        clear hst' hiv' hdn hb2 hzero
                        go_wp2_with fail
                        go_ret
                        refine ⟨st, xs.set st 48, by simp, HB2.out, (Onl.refl _ _).setCell (p := ⟨h, o + st, none⟩) rfl _, by rw [List.length_set]; exact HL.out, by simp; omega, fun j hj => ?_⟩
                        obtain rfl : j = 0 := by simpa using hj
                        rw [set_get (by rw [HL.out]; exact hcN), if_pos (by omega)]
                        rfl
                    · have hst' : st = sl + z := by
                        have h := HST.out
                        split at h
                        · rename_i hh
                          exfalso
                          have hm0 : m = 0 := by omega
                          exact hzero ⟨hh.1, hm0⟩
                        · exact h.symm
                      by_cases hdn : di = n
                      · have hm0 : m = 0 := by omega
                        have hiv' : iv = n - 1 := by have h := HIV.out; rw [if_pos hdn] at h; exact h.symm
                        have hen' : en = n := by have h := HEN.out; rw [if_neg (by omega)] at h; exact h.symm
                        have h2 : en2 = en := by have h := HEN2.out; rw [if_pos hm0] at h; omega
                        have hne := HZEND.out (by omega)
                        rw [← hst'] at hne
                        obtain ⟨c, hcd⟩ : ∃ c, xs.getD st 0 = c := ⟨_, rfl⟩
                        rw [hcd] at hne c0
                        have e48 : (c == 48) = false := by simpa using hne
                        have f1 : ((iv : Int) == (di : Int)) = false := by simp; omega
                        have H2 := Lib.hid h2
                        have HZ := Lib.hid hzero
                        have hen1 : 1 ≤ en := by omega
                        have hen3 : en ≤ N := by omega
                        clear hcd hne hst' hiv' hen' hm0 h2 hdn hzero
                        by_cases hlast : st + 1 = en
                        · subst hlast
                          go_wp2_with fail
                          go_meet
                          case rel => exact ⟨by rw [H2.out], HZ.out, rfl⟩
                        · have f2 : ((st : Int) == (en : Int) - 1) = false := by simp; omega
                          clear hlast
                          go_wp2_with fail
                          go_meet
                          case rel => exact ⟨by rw [H2.out], HZ.out, rfl⟩
                      · by_cases hm0 : m = 0
                        · have hiv' : iv = di := by have h := HIV.out; rw [if_neg hdn] at h; omega
                          have h2 : en2 = di := by have h := HEN2.out; rw [if_pos hm0] at h; omega
                          have f1 : ((iv : Int) == (di : Int)) = true := by simp; omega
                          have f2 : ((st : Int) == (di : Int)) = false := by simp; omega
                          have H2 := Lib.hid h2
                          have HZ := Lib.hid hzero
                          clear hst' hiv' hm0 h2 hdn hzero
                          go_wp2_with fail
                          go_meet
                          case rel => exact ⟨by rw [H2.out], HZ.out, rfl⟩
                        · have hiv' : iv = di + m := by have h := HIV.out; rw [if_neg hdn] at h; omega
                          have hen0 : en = di + 1 + m := by have h := HEN.out; rw [if_pos ⟨by omega, by omega⟩] at h; exact h.symm
                          have h2 : en2 = en := by have h := HEN2.out; rw [if_neg hm0] at h; omega
                          have f1 : ((iv : Int) == (di : Int)) = false := by simp; omega
                          have f2 : ((st : Int) == (en : Int) - 1) = false := by simp; omega
                          have H2 := Lib.hid h2
                          have HZ := Lib.hid hzero
                          have hen1 : 1 ≤ en := by omega
                          have hen3 : en ≤ N := by omega
                          clear hst' hiv' hm0 h2 hdn hzero hen0
                          go_wp2_with fail
                          go_meet
                          case rel => exact ⟨by rw [H2.out], HZ.out, rfl⟩
                  -- ]]
                case rest =>
                  obtain ⟨rfl, hnz, rfl⟩ := hcut
                  have hst' : st = sl + z := by
                    have h := HST.out
                    split at h
                    · rename_i hh
                      exact absurd ⟨hh.1, by omega⟩ hnz
                    · exact h.symm
                  have hIF : I = [] → 0 < m := fun e => by rw [e] at hz; simp at hz; omega
                  have hle : n ≤ N := nN
                  obtain ⟨nn, hnn⟩ : ∃ nn, (sigD I F).length = nn := ⟨_, rfl⟩
                  obtain ⟨nx, hnx⟩ : ∃ nx, nrm I F = nx := ⟨_, rfl⟩
                  obtain ⟨en, hen⟩ : ∃ en, (if m = 0 then st + nn else en2) = en := ⟨_, rfl⟩
                  have HNN := Lib.hid hnn
                  have HNX := Lib.hid hnx
                  have HEN3 := Lib.hid hen
                  have HST' := Lib.hid hst'
                  have HZ := Lib.hid hnz
                  clear HEN HIV hnn hnx hen hst' hnz
                  go_upto_if 326 with (fail)
                  go_cut [8, 14, 19, 20] from 327 to 380 (fun v8 v14 v19 v20 wc => v8 = .int .i64 (en : Nat) ∧ v19 = .int .i64 (nn : Nat) ∧ v20 = .int .i64 nx ∧ w = wc)
                  case first =>
                    -- [[
                    as_aux_lemma =>
                      have hst' := HST'.out
                      by_cases hI0 : I = []
                      · have hm := hIF hI0
                        have hI1 : I.length = 0 := by rw [hI0]; rfl
                        obtain ⟨g, g1, g2, g3, g4⟩ := fr_parts F
                        have hD : sigD I F = dropZ F := by unfold sigD; rw [if_pos hI0]
                        have hnn := HNN.out
                        have hnx := HNX.out
                        unfold nrm at hnx
                        rw [if_pos hI0] at hnx
                        rw [hD] at hnn
                        have hmF := HMF.out
                        rw [hnn, hmF] at g1 hnx
                        have hnn1 : 1 ≤ nn := by
                          rcases Nat.eq_zero_or_pos nn with e | e
                          · exfalso
                            have h1 := HME.out hm
                            have h2 := HFA.out (m - 1) (by omega)
                            rw [show di + 1 + (m - 1) = di + m from by omega] at h2
                            rw [h2] at h1
                            exact h1 (g2 (m - 1) (by omega))
                          · exact e
                        have hen2 := HEN2.out
                        rw [if_neg (by omega)] at hen2
                        have hen := HEN3.out
                        rw [if_neg (by omega)] at hen
                        have hsd : st = di := by omega
                        have f1 : ((st : Int) == (en2 : Int)) = false := by simp; omega
                        have f2 : ((di : Int) == (st : Int)) = true := by simp; omega
                        have HG2 := Lib.hid g2
                        have HG4 := Lib.hid g4
                        have HNN2 := Lib.hid hnn
                        have HHH := Lib.hid (And.intro g1 (And.intro hen (And.intro hnx (And.intro hen2 hsd))))
                        have hb1 : (di : Int) ≤ 1000000 := by omega
                        have hb2 : (en2 : Int) ≤ 1000001 := by omega
                        clear hI0 hI1 g1 g2 g3 g4 hD hnn hnx hmF hen2 hen hsd hst'
                        go_wp2_with fail
                        go_loopw [14, 19, 20] (fun v14 v19 v20 wr => ∃ q : Nat, q ≤ g ∧ v14 = .int .i64 (di + 1 + q : Nat) ∧ v19 = .int .i64 0 ∧ v20 = .int .i64 0 ∧ w = wr) (fun v14 _ _ _ => 2000000 - (intOf v14).toNat)
                        case atStart => exact ⟨0, by omega, by go_num, rfl, rfl, (by first | rfl | trivial)⟩
                        case round =>
                          obtain ⟨q, hq, rfl, rfl, rfl, rfl⟩ := hrel
                          obtain ⟨g1, hen, hnx, hen2, hsd⟩ := HHH.out
                          have hqe : ((di + 1 + q : Nat) : Int) < (en2 : Int) := by omega
                          have hqN : di + 1 + q < N := by omega
                          have c0 := HC.out (di + 1 + q) hqN
                          have hfa := HFA.out q (by omega)
                          rw [hfa] at c0
                          obtain ⟨c, hcd⟩ : ∃ c, F.getD q 0 = c := ⟨_, rfl⟩
                          rw [hcd] at c0
                          rcases Nat.lt_or_ge q g with hqg | hqg
                          · have h48 := HG2.out q hqg
                            rw [hcd] at h48
                            subst h48
                            clear hcd hfa g1 hen hnx hen2 hsd
                            go_wp2_with fail
                            go_roundw
                            case rel => exact ⟨q + 1, by omega, by go_num, rfl, rfl, (by first | rfl | trivial)⟩
                            case measure => simp [intOf]; omega
                          · have hqg' : q = g := by omega
                            have hne : c ≠ 48 := by
                              rw [← hcd, hqg']
                              exact HG4.out (fun e => by have := HNN2.out; rw [e] at this; simp at this; omega)
                            have e1 : (c == 48) = false := by simpa using hne
                            have r1 : (en : Int) = (en2 : Int) := by omega
                            have r2 : (nn : Int) = (en2 : Int) - ((di + 1 + q : Nat) : Int) := by omega
                            have r3 : nx = (di : Int) - ((di + 1 + q : Nat) : Int) + 1 := by omega
                            have R := Lib.hid (And.intro r1 (And.intro r2 r3))
                            clear hcd hfa g1 hen hnx hen2 hsd hne hqg' r1 r2 r3
                            go_wp2_with fail
                            go_meet
                            case rel => exact ⟨by rw [R.out.1], by rw [R.out.2.1]; go_num, by rw [R.out.2.2]; go_num, (by first | rfl | trivial)⟩
                      · have hI1 : 1 ≤ I.length := by
                          rcases Nat.eq_zero_or_pos I.length with e | e
                          · exact absurd (List.eq_nil_of_length_eq_zero e) hI0
                          · exact e
                        have f2 : ((di : Int) == (st : Int)) = false := by simp; omega
                        have hnx := HNX.out
                        unfold nrm at hnx
                        rw [if_neg hI0] at hnx
                        by_cases hm0 : m = 0
                        · have hF0 : F = [] := List.eq_nil_of_length_eq_zero (by rw [HMF.out]; exact hm0)
                          obtain ⟨g1, g2, g3, g4⟩ := in_parts I
                          have hD : sigD I F = trimF I := by unfold sigD; rw [if_neg hI0, if_pos hF0]
                          have hnn := HNN.out
                          rw [hD] at hnn
                          rw [hnn] at g1 g2 g3 g4
                          have hnn1 : 1 ≤ nn := by
                            rcases Nat.eq_zero_or_pos nn with e | e
                            · exfalso
                              have h1 := HZEND.out (by omega)
                              have h2 := HIA.out 0 (by omega)
                              rw [Nat.add_zero] at h2
                              rw [h2] at h1
                              exact h1 (g3 0 (by omega) (by omega))
                            · exact e
                          have hen2 := HEN2.out
                          rw [if_pos hm0] at hen2
                          have hen := HEN3.out
                          rw [if_pos hm0] at hen
                          have f1 : ((st : Int) == (en2 : Int)) = false := by simp; omega
                          have f3 : ((di : Int) == (en2 : Int)) = true := by simp; omega
                          have HG3 := Lib.hid g3
                          have HG4 := Lib.hid g4
                          have HHH := Lib.hid (And.intro g1 (And.intro hen (And.intro hnx (And.intro hen2 hst'))))
                          have hb1 : (di : Int) ≤ 1000000 := by omega
                          have hb2 : (en2 : Int) ≤ 1000001 := by omega
                          have hb3 : 1 ≤ en2 := by omega
                          clear hI0 g1 g2 g3 g4 hD hnn hnx hF0 hen2 hen hst' hm0
                          go_wp2_with fail
                          go_loopw [14, 19, 8] (fun v14 v19 v8 wr => ∃ q : Nat, nn ≤ q ∧ q ≤ en2 - st ∧ v14 = .int .i64 ((st : Int) + (q : Int) - 1) ∧ v19 = .int .i64 0 ∧ v8 = .int .i64 (en2 : Nat) ∧ w = wr) (fun v14 _ _ _ => (intOf v14).toNat)
                          case atStart =>
                            obtain ⟨g1, hen, hnx, hen2, hst'⟩ := HHH.out
                            exact ⟨en2 - st, by omega, by omega, by rw [show (st : Int) + ((en2 - st : Nat) : Int) - 1 = (en2 : Int) - 1 from by omega], rfl, rfl, (by first | rfl | trivial)⟩
                          case round =>
                            obtain ⟨q, hq0, hq1, rfl, rfl, rfl, rfl⟩ := hrel
                            obtain ⟨p, rfl⟩ : ∃ p, q = p + 1 := ⟨q - 1, by omega⟩
                            obtain ⟨g1, hen, hnx, hen2, hst'⟩ := HHH.out
                            have hpp : (st : Int) + ((p + 1 : Nat) : Int) - 1 = ((st + p : Nat) : Int) := by omega
                            rw [hpp]
                            have hqN : st + p < N := by omega
                            have c0 := HC.out (st + p) hqN
                            have hia := HIA.out p (by omega)
                            rw [← hst'] at hia
                            rw [hia] at c0
                            obtain ⟨c, hcd⟩ : ∃ c, I.getD p 0 = c := ⟨_, rfl⟩
                            rw [hcd] at c0
                            have hle2 : (st : Int) ≤ ((st + p : Nat) : Int) := by omega
                            rcases Nat.lt_or_ge p nn with hqg | hqg
                            · have hqg' : p = nn - 1 := by omega
                              have hne : c ≠ 48 := by
                                rw [← hcd, hqg']
                                exact HG4.out (by omega)
                              have e1 : (c == 48) = false := by simpa using hne
                              have r1 : (en : Int) = ((st + p : Nat) : Int) + 1 := by omega
                              have r2 : (nn : Int) = ((st + p : Nat) : Int) + 1 - (st : Int) := by omega
                              have r3 : nx = (en2 : Int) - (st : Int) := by omega
                              have R := Lib.hid (And.intro r1 (And.intro r2 r3))
                              clear hcd hia g1 hen hnx hen2 hne hqg' r1 r2 r3 hst' hpp
                              go_wp2_with fail
                              go_meet
                              case rel => exact ⟨by rw [R.out.1]; go_num, by rw [R.out.2.1]; go_num, by rw [R.out.2.2], (by first | rfl | trivial)⟩
                            · have h48 := HG3.out p hqg (by omega)
                              rw [hcd] at h48
                              subst h48
                              have hp1 : 1 ≤ p := by omega
                              clear hcd hia g1 hen hnx hen2 hst' hpp
                              go_wp2_with fail
                              go_roundw
                              case rel => exact ⟨p, by omega, by omega, by go_num, rfl, rfl, (by first | rfl | trivial)⟩
                              case measure => simp [intOf]; omega
                        · have hF0 : F ≠ [] := fun e => by have := HMF.out; rw [e] at this; simp at this; omega
                          have hD : sigD I F = I ++ F := by unfold sigD; rw [if_neg hI0, if_neg hF0]
                          have hnn := HNN.out
                          rw [hD, List.length_append, HMF.out] at hnn
                          have hen2 := HEN2.out
                          rw [if_neg hm0] at hen2
                          have hen := HEN3.out
                          rw [if_neg hm0] at hen
                          have f1 : ((st : Int) == (en2 : Int)) = false := by simp; omega
                          have f3 : ((di : Int) == (en2 : Int)) = false := by simp; omega
                          have r1 : (en : Int) = (en2 : Int) := by omega
                          have r2 : (nn : Int) = (en2 : Int) - (st : Int) - 1 := by omega
                          have r3 : nx = (di : Int) - (st : Int) := by omega
                          have R := Lib.hid (And.intro r1 (And.intro r2 r3))
                          have hb1 : (di : Int) ≤ 1000000 := by omega
                          have hb2 : (en2 : Int) ≤ 1000001 := by omega
                          clear hI0 hD hnn hnx hF0 hen2 hen hst' hm0 r1 r2 r3
                          go_wp2_with fail
                          go_meet
                          case rel => exact ⟨by rw [R.out.1], by rw [R.out.2.1], by rw [R.out.2.2], rfl⟩
                    -- ]]
                  case rest =>
                    obtain ⟨rfl, rfl, rfl, rfl⟩ := hcut
                    have KD := HKD.out (by rw [HMF.out]; exact HZ.out)
                    have hen : (if m = 0 then st + nn else di + 1 + m) = en := by
                      have h1 := HEN3.out
                      have h2 := HEN2.out
                      by_cases hm0 : m = 0
                      · rw [if_pos hm0] at h1 ⊢; exact h1
                      · rw [if_neg hm0] at h1 h2 ⊢; omega
                    rw [HNN.out, HNX.out, HMF.out, ← HST'.out, hen] at KD
                    obtain ⟨nn1, nn2, nx1, nx2, KD⟩ := KD
                    have HK := Lib.hid KD
                    have hR : numR xs neg I F ev = if asIs I F ev = true then xs else (if neg = true then [45] else []) ++ body (sigD I F) F (nx + ev) := by
                      unfold numR
                      rw [if_neg (fun e => HZ.out ⟨by have := hz; rw [e.1] at this; simp at this; omega, by rw [← HMF.out, e.2]; rfl⟩), HNX.out]
                    have HR := Lib.hid hR
                    clear KD hen HEN3 HEN2 HKD hR
                    have hneg1 : neg = true → 1 ≤ st := by
                      intro hn
                      have h1 := HST'.out
                      rcases Nat.eq_zero_or_pos sl with e | e
                      · have := (HSG.out.2 e).1; rw [hn] at this; cases this
                      · omega
                    have HNG := Lib.hid hneg1
                    clear hneg1
                    go_upto_region 101 with (fail)
                    go_cut [414] from 381 to 413 (fun v414 wc => v414 = .bool false ∧ w = wc)
                    case first =>
                      -- [[
                      as_aux_lemma =>
                        rcases Int.lt_trichotomy ev 0 with h0 | h0 | h0
                        · have k1 : ¬ (0 : Int) < ev := by omega
                          have k2 : ¬ nx < -9223372036854775808 - ev := by omega
                          have k3 : ¬ nx - (nn : Int) < -9223372036854775808 - ev := by omega
                          go_wp2_with fail
                          go_meet
                          case rel => exact ⟨rfl, rfl⟩
                        · have k1 : ¬ (0 : Int) < ev := by omega
                          have k2 : ¬ ev < (0 : Int) := by omega
                          clear h0
                          go_wp2_with fail
                          go_meet
                          case rel => exact ⟨rfl, rfl⟩
                        · have k1 : ¬ ev < (0 : Int) := by omega
                          have k2 : ¬ 9223372036854775807 - ev < nx := by omega
                          have k3 : ¬ 9223372036854775807 - ev < nx - (nn : Int) := by omega
                          go_wp2_with fail
                          go_meet
                          case rel => exact ⟨rfl, rfl⟩
                      -- ]]
                    case rest =>
                      obtain ⟨rfl, rfl⟩ := hcut
                      obtain ⟨e, he⟩ : ∃ e, nx + ev = e := ⟨_, rfl⟩
                      have HE := Lib.hid he
                      have e0 : -440 ≤ e := by omega
                      have e1 : e ≤ 440 := by omega
                      go_wp2_with fail
                      refine (LenInt_at (e - (nn : Int)) _ (by omega) (by omega)).mono ?_
                      rintro e' w2 ⟨rfl, rfl⟩
                      have lbx : 1 ≤ li (e - (nn : Int)) ∧ li (e - (nn : Int)) ≤ 4 := by
                        unfold li dl
                        split <;> (try split) <;> (try split) <;> omega
                      obtain ⟨Li, hLi⟩ : ∃ Li : Nat, li (e - (nn : Int)) = (Li : Int) := ⟨(li (e - (nn : Int))).toNat, by omega⟩
                      have HLI := Lib.hid hLi
                      rw [hLi]
                      have lb : 1 ≤ Li ∧ Li ≤ 4 := by omega
                      clear lbx
                      obtain ⟨lb0, lb1⟩ := lb
                      clear he hLi
                      go_wp2_with fail
                      refine (LenInt_at e _ (by omega) (by omega)).mono ?_
                      rintro e' w2 ⟨rfl, rfl⟩
                      have mbx : 1 ≤ li e ∧ li e ≤ 4 := by
                        unfold li dl
                        split <;> (try split) <;> (try split) <;> omega
                      obtain ⟨Le, hLe⟩ : ∃ Le : Nat, li e = (Le : Int) := ⟨(li e).toNat, by omega⟩
                      have HLE := Lib.hid hLe
                      rw [hLe]
                      have mb : 1 ≤ Le ∧ Le ≤ 4 := by omega
                      clear mbx
                      obtain ⟨mb0, mb1⟩ := mb
                      clear hLe
                      obtain ⟨B, hB⟩ : ∃ B, body (sigD I F) F e = B := ⟨_, rfl⟩
                      have HBD := Lib.hid hB
                      clear hB
                      by_cases hc1 : (nn : Int) ≤ e
                      · go_upto_if 428 with (fail)
                        rename_i z0 z1 z2 z3 z4 z5 z6 z7 z8 z9 z10 z11 z12 z13 z14 z15 z16 z17 z18 z19 K0 aK0
                        try clear z19
                        try clear z18
                        try clear z17
                        try clear z16
                        try clear z15
                        try clear z14
                        try clear z13
                        try clear z12
                        try clear z11
                        try clear z10
                        try clear z9
                        try clear z8
                        try clear z7
                        try clear z6
                        try clear z5
                        try clear z4
                        try clear z3
                        try clear z2
                        try clear z1
                        try clear z0
                        revert hcap hmax nN two sl1 dil hz hNn m hmle hdin HB HL HSG HDOT HMAN HZERO HZEND HMZ HME HC HND HI HF HMF HIA HFA HNE HEX HEL ev0 ev1 i0 sb HSB HSLN u10 u11 u12 u13 u15 u16 u17 u18 u19 u20 u21 u22 u23 u24 u25 u26 u27 u28 u29 u30 u31 u32 u33 u34 u35 u36 u37 u38 u39 u40 u41 u42 u43 u44 u45 u46 u47 u48 u49 u50 u51 u52 u53 u54 u55 u56 u57 u58 u59 u60 u61 u62 u63 u64 u65 u66 u67 u68 u69 u70 u71 u72 u73 u74 u75 u76 u77 u78 u79 u80 u81 u82 u83 u84 u85 u86 u87 u88 u89 u90 u91 u92 u93 u94 u95 u96 u97 u98 u99 u100 u101 u102 u103 u104 u105 u106 u107 u108 u109 u110 u111 u112 u113 u114 u115 u116 u117 dv u118 u119 u120 st HST hst1 hst2 hn1 u121 u122 u123 u124 u125 u126 u127 u128 u129 u130 u131 u132 u133 iv u134 u135 u136 u137 u138 u139 u140 u141 u142 u143 u144 u145 u146 u147 en2 u148 u149 u150 u151 u152 u153 u154 u155 u156 u157 u158 u159 u160 u161 u162 u163 u164 u165 u166 u167 u168 u169 u170 u171 u172 u173 u174 u175 u176 u177 hIF hle nn nx en HNN HNX HST' HZ u4 u14 u327 u328 u329 u330 u331 u332 u333 u334 u335 u336 u337 u338 u339 u340 u341 u342 u343 u344 u345 u346 u347 u348 u349 u350 u351 u352 u353 u354 u355 u356 u357 u358 u359 u360 u361 u362 u363 u364 u365 u366 u367 u368 u369 u370 u371 u372 u373 u374 u375 u376 u377 u378 u379 u380 nn1 nn2 nx1 nx2 HK HR HNG u381 u382 u383 u384 u385 u386 u387 u388 u389 u390 u391 u392 u393 u394 u395 u396 u397 u398 u399 u400 u401 u402 u403 u404 u405 u406 u407 u408 u409 u410 u411 u412 u413 e HE e0 e1 Li HLI lb0 lb1 Le HLE mb0 mb1 B HBD hc1 K0 aK0
                        exact r1.out
                      · have HC1 := Lib.hid hc1
                        obtain ⟨sb, hsb⟩ : ∃ sb, second (sigD I F) F e = sb := ⟨_, rfl⟩
                        have HSB := Lib.hid hsb
                        clear hsb
                        go_upto_if 428 with (fail)
                        go_upto_region 132 with (fail)
                        clear hc1
                        go_cut [531] from 520 to 530 (fun v531 wc => v531 = .bool sb ∧ w = wc)
                        case first =>
                          -- [[
                          as_aux_lemma =>
                            have hsb := HSB.out
                            unfold second at hsb
                            rw [HNN.out, HLI.out, HLE.out] at hsb
                            have k3 : ((di : Int) < (en : Int) ∧ F ≠ []) ∨ (¬ (di : Int) < (en : Int) ∧ F = []) := by
                              rcases HK.out with ⟨_, hF, g, K⟩ | ⟨_, hF, K⟩ | ⟨_, hF, K⟩
                              · obtain ⟨e1, e2, e3, le, pt, zz, dd⟩ := K
                                exact .inl ⟨by omega, hF⟩
                              · obtain ⟨e1, e2, e3, le, dd⟩ := K
                                exact .inr ⟨by omega, hF⟩
                              · obtain ⟨e1, e2, e3, e4, le, pt, d1, d2⟩ := K
                                exact .inl ⟨by omega, hF⟩
                            by_cases k1 : e < -3
                            · by_cases k2 : (Le : Int) < (Li : Int)
                              · have k2' : Le < Li := by omega
                                rcases k3 with ⟨k3, kF⟩ | ⟨k3, kF⟩
                                · have hs : sb = true := by rw [← hsb]; simp [k1, k2', kF]
                                  clear hsb kF
                                  subst hs
                                  go_wp2_with fail
                                  go_meet
                                  case rel => exact ⟨rfl, rfl⟩
                                · have hs : sb = false := by rw [← hsb]; simp [kF]
                                  clear hsb kF
                                  subst hs
                                  go_wp2_with fail
                                  go_meet
                                  case rel => exact ⟨rfl, rfl⟩
                              · have k2' : ¬ Le < Li := by omega
                                have hs : sb = false := by rw [← hsb]; simp [k2']
                                clear hsb k3
                                subst hs
                                go_wp2_with fail
                                go_meet
                                case rel => exact ⟨rfl, rfl⟩
                            · have hs : sb = false := by rw [← hsb]; simp [k1]
                              clear hsb k3
                              subst hs
                              go_wp2_with fail
                              go_meet
                              case rel => exact ⟨rfl, rfl⟩
                          -- ]]
                        case rest =>
                          obtain ⟨rfl, rfl⟩ := hcut
                          cases sb with
                          | true =>
                            go_upto_if 531 with (fail)
                            rename_i z0 z1 z2 z3 z4 z5 z6 z7 z8 z9 z10 z11 z12 z13 z14 z15 z16 z17 z18 z19 z20 K0 aK0 z23
                            try clear z23
                            try clear z20
                            try clear z19
                            try clear z18
                            try clear z17
                            try clear z16
                            try clear z15
                            try clear z14
                            try clear z13
                            try clear z12
                            try clear z11
                            try clear z10
                            try clear z9
                            try clear z8
                            try clear z7
                            try clear z6
                            try clear z5
                            try clear z4
                            try clear z3
                            try clear z2
                            try clear z1
                            try clear z0
                            revert hcap hmax nN two sl1 dil hz hNn m hmle hdin HB HL HSG HDOT HMAN HZERO HZEND HMZ HME HC HND HI HF HMF HIA HFA HNE HEX HEL ev0 ev1 i0 sb HSLN u10 u11 u12 u13 u15 u16 u17 u18 u19 u20 u21 u22 u23 u24 u25 u26 u27 u28 u29 u30 u31 u32 u33 u34 u35 u36 u37 u38 u39 u40 u41 u42 u43 u44 u45 u46 u47 u48 u49 u50 u51 u52 u53 u54 u55 u56 u57 u58 u59 u60 u61 u62 u63 u64 u65 u66 u67 u68 u69 u70 u71 u72 u73 u74 u75 u76 u77 u78 u79 u80 u81 u82 u83 u84 u85 u86 u87 u88 u89 u90 u91 u92 u93 u94 u95 u96 u97 u98 u99 u100 u101 u102 u103 u104 u105 u106 u107 u108 u109 u110 u111 u112 u113 u114 u115 u116 u117 dv u118 u119 u120 st HST hst1 hst2 hn1 u121 u122 u123 u124 u125 u126 u127 u128 u129 u130 u131 u132 u133 iv u134 u135 u136 u137 u138 u139 u140 u141 u142 u143 u144 u145 u146 u147 en2 u148 u149 u150 u151 u152 u153 u154 u155 u156 u157 u158 u159 u160 u161 u162 u163 u164 u165 u166 u167 u168 u169 u170 u171 u172 u173 u174 u175 u176 u177 hIF hle nn nx en HNN HNX HST' HZ u4 u14 u327 u328 u329 u330 u331 u332 u333 u334 u335 u336 u337 u338 u339 u340 u341 u342 u343 u344 u345 u346 u347 u348 u349 u350 u351 u352 u353 u354 u355 u356 u357 u358 u359 u360 u361 u362 u363 u364 u365 u366 u367 u368 u369 u370 u371 u372 u373 u374 u375 u376 u377 u378 u379 u380 nn1 nn2 nx1 nx2 HK HR HNG u381 u382 u383 u384 u385 u386 u387 u388 u389 u390 u391 u392 u393 u394 u395 u396 u397 u398 u399 u400 u401 u402 u403 u404 u405 u406 u407 u408 u409 u410 u411 u412 u413 e HE e0 e1 Li HLI lb0 lb1 Le HLE mb0 mb1 B HBD HC1 K0 aK0 u520 u521 u522 u523 u524 u525 u526 u527 u528 u529 u530 HSB
                            exact r2.out
                          | false =>
                            go_upto_if 603 with (fail)
                            by_cases k6 : -(Li : Int) ≤ e
                            · skip
                              rename_i z0 z1 z2 z3 z4 z5 z6 z7 z8 z9 z10 z11 z12 z13 z14 z15 z16 z17 z18 z19 z20 K0 aK0 z23
                              try clear z23
                              try clear z20
                              try clear z19
                              try clear z18
                              try clear z17
                              try clear z16
                              try clear z15
                              try clear z14
                              try clear z13
                              try clear z12
                              try clear z11
                              try clear z10
                              try clear z9
                              try clear z8
                              try clear z7
                              try clear z6
                              try clear z5
                              try clear z4
                              try clear z3
                              try clear z2
                              try clear z1
                              try clear z0
                              revert hcap hmax nN two sl1 dil hz hNn m hmle hdin HB HL HSG HDOT HMAN HZERO HZEND HMZ HME HC HND HI HF HMF HIA HFA HNE HEX HEL ev0 ev1 i0 sb HSLN u10 u11 u12 u13 u15 u16 u17 u18 u19 u20 u21 u22 u23 u24 u25 u26 u27 u28 u29 u30 u31 u32 u33 u34 u35 u36 u37 u38 u39 u40 u41 u42 u43 u44 u45 u46 u47 u48 u49 u50 u51 u52 u53 u54 u55 u56 u57 u58 u59 u60 u61 u62 u63 u64 u65 u66 u67 u68 u69 u70 u71 u72 u73 u74 u75 u76 u77 u78 u79 u80 u81 u82 u83 u84 u85 u86 u87 u88 u89 u90 u91 u92 u93 u94 u95 u96 u97 u98 u99 u100 u101 u102 u103 u104 u105 u106 u107 u108 u109 u110 u111 u112 u113 u114 u115 u116 u117 dv u118 u119 u120 st HST hst1 hst2 hn1 u121 u122 u123 u124 u125 u126 u127 u128 u129 u130 u131 u132 u133 iv u134 u135 u136 u137 u138 u139 u140 u141 u142 u143 u144 u145 u146 u147 en2 u148 u149 u150 u151 u152 u153 u154 u155 u156 u157 u158 u159 u160 u161 u162 u163 u164 u165 u166 u167 u168 u169 u170 u171 u172 u173 u174 u175 u176 u177 hIF hle nn nx en HNN HNX HST' HZ u4 u14 u327 u328 u329 u330 u331 u332 u333 u334 u335 u336 u337 u338 u339 u340 u341 u342 u343 u344 u345 u346 u347 u348 u349 u350 u351 u352 u353 u354 u355 u356 u357 u358 u359 u360 u361 u362 u363 u364 u365 u366 u367 u368 u369 u370 u371 u372 u373 u374 u375 u376 u377 u378 u379 u380 nn1 nn2 nx1 nx2 HK HR HNG u381 u382 u383 u384 u385 u386 u387 u388 u389 u390 u391 u392 u393 u394 u395 u396 u397 u398 u399 u400 u401 u402 u403 u404 u405 u406 u407 u408 u409 u410 u411 u412 u413 e HE e0 e1 Li HLI lb0 lb1 Le HLE mb0 mb1 B HBD HC1 K0 aK0 u520 u521 u522 u523 u524 u525 u526 u527 u528 u529 u530 HSB k6
                              exact r3.out
                            · skip
                              rename_i z0 z1 z2 z3 z4 z5 z6 z7 z8 z9 z10 z11 z12 z13 z14 z15 z16 z17 z18 z19 z20 K0 aK0 z23
                              try clear z23
                              try clear z20
                              try clear z19
                              try clear z18
                              try clear z17
                              try clear z16
                              try clear z15
                              try clear z14
                              try clear z13
                              try clear z12
                              try clear z11
                              try clear z10
                              try clear z9
                              try clear z8
                              try clear z7
                              try clear z6
                              try clear z5
                              try clear z4
                              try clear z3
                              try clear z2
                              try clear z1
                              try clear z0
                              revert hcap hmax nN two sl1 dil hz hNn m hmle hdin HB HL HSG HDOT HMAN HZERO HZEND HMZ HME HC HND HI HF HMF HIA HFA HNE HEX HEL ev0 ev1 i0 sb HSLN u10 u11 u12 u13 u15 u16 u17 u18 u19 u20 u21 u22 u23 u24 u25 u26 u27 u28 u29 u30 u31 u32 u33 u34 u35 u36 u37 u38 u39 u40 u41 u42 u43 u44 u45 u46 u47 u48 u49 u50 u51 u52 u53 u54 u55 u56 u57 u58 u59 u60 u61 u62 u63 u64 u65 u66 u67 u68 u69 u70 u71 u72 u73 u74 u75 u76 u77 u78 u79 u80 u81 u82 u83 u84 u85 u86 u87 u88 u89 u90 u91 u92 u93 u94 u95 u96 u97 u98 u99 u100 u101 u102 u103 u104 u105 u106 u107 u108 u109 u110 u111 u112 u113 u114 u115 u116 u117 dv u118 u119 u120 st HST hst1 hst2 hn1 u121 u122 u123 u124 u125 u126 u127 u128 u129 u130 u131 u132 u133 iv u134 u135 u136 u137 u138 u139 u140 u141 u142 u143 u144 u145 u146 u147 en2 u148 u149 u150 u151 u152 u153 u154 u155 u156 u157 u158 u159 u160 u161 u162 u163 u164 u165 u166 u167 u168 u169 u170 u171 u172 u173 u174 u175 u176 u177 hIF hle nn nx en HNN HNX HST' HZ u4 u14 u327 u328 u329 u330 u331 u332 u333 u334 u335 u336 u337 u338 u339 u340 u341 u342 u343 u344 u345 u346 u347 u348 u349 u350 u351 u352 u353 u354 u355 u356 u357 u358 u359 u360 u361 u362 u363 u364 u365 u366 u367 u368 u369 u370 u371 u372 u373 u374 u375 u376 u377 u378 u379 u380 nn1 nn2 nx1 nx2 HK HR HNG u381 u382 u383 u384 u385 u386 u387 u388 u389 u390 u391 u392 u393 u394 u395 u396 u397 u398 u399 u400 u401 u402 u403 u404 u405 u406 u407 u408 u409 u410 u411 u412 u413 e HE e0 e1 Li HLI lb0 lb1 Le HLE mb0 mb1 B HBD HC1 K0 aK0 u520 u521 u522 u523 u524 u525 u526 u527 u528 u529 u530 HSB k6
                              exact r4.out

end Go.Proofs.YthoekplablhgfaaGreatDoor
