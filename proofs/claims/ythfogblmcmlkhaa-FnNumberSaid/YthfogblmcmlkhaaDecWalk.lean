/-
  The contract of minify.Decimal without precision: which bytes it hands back.
-/
import Derived.Test.YthfogblmcmlkhaaBuf
import Derived.IntWalk
import Derived.Deep.DeepCutAuto
import Derived.Deep.CutBlock
namespace Go.Proofs.Ythfogblmcmlkhaa
open Go.RowKit
set_option linter.unusedVariables false

/-- Where the parts of a decimal lie in n bytes: behind the sign (sl bytes), the point at di (n: there is none); st leading noughts are skipped, m digits behind the point count. -/
structure DecAt (xs : List Int) (n sl di z m : Nat) (neg : Bool) : Prop where
  len : xs.length = n
  two : 2 ≤ n
  sl1 : sl ≤ 1
  sign : (sl = 1 → (xs.getD 0 0 = 45 ∧ neg = true) ∨ (xs.getD 0 0 = 43 ∧ neg = false)) ∧ (sl = 0 → neg = false ∧ xs.getD 0 0 ≠ 45 ∧ xs.getD 0 0 ≠ 43)
  dil : sl ≤ di
  din : di ≤ n
  dot : di < n → xs.getD di 0 = 46 ∧ di + 1 < n
  nodot : di = n → sl < n
  int : ∀ k, sl ≤ k → k < di → xs.getD k 0 ≠ 46
  byte : ∀ k, 0 ≤ xs.getD k 0 ∧ xs.getD k 0 ≤ 255
  zle : sl + z ≤ di
  zero : ∀ k, sl ≤ k → k < sl + z → xs.getD k 0 = 48
  zend : sl + z < di → xs.getD (sl + z) 0 ≠ 48
  mle : di + 1 + m ≤ n ∨ (di = n ∧ m = 0)
  mzero : ∀ k, di + 1 + m ≤ k → k < n → xs.getD k 0 = 48
  mend : 0 < m → xs.getD (di + m) 0 ≠ 48

/-- From where to where the answer goes, and whether a 0 is written first. -/
def decZero (di sl z m : Nat) : Bool := decide (sl + z = di) && decide (m = 0)

def DecPost (h cap n sl di z m : Nat) (neg : Bool) (xs : List Int) (tail : List Value) (w : World) (e : Ending) (w' : World) : Prop :=
  ∃ (a b : Nat) (ys : List Int), e = .returned (.slice (some ⟨h, a, none⟩) (b - a) (cap - a)) ∧ Buf w' h ys tail ∧ w.grownBy w' (some h) ∧ ys.length = n ∧ a ≤ b ∧ b ≤ n ∧
    (if sl + z = di ∧ m = 0 then b = a + 1 ∧ ys.getD a 0 = 48
     else b = (if m = 0 then di else di + 1 + m) ∧ (if neg = true then a + 1 = sl + z ∧ ys.getD a 0 = 45 else a = sl + z) ∧ ∀ k, sl + z ≤ k → k < n → ys.getD k 0 = xs.getD k 0)

set_option maxRecDepth 100000 in
set_option maxHeartbeats 6400000 in
theorem Decimal_at (h cap n sl di z m : Nat) (neg : Bool) (xs : List Int) (tail : List Value) (w : World) (hb : Buf w h xs tail) (hd : DecAt xs n sl di z m neg) (hcap : n ≤ cap) (hmax : n ≤ 1000000) :
    Calls Try.prog 19 #[.slice (some ⟨h, 0, none⟩) n cap, .int .i64 0] w (DecPost h cap n sl di z m neg xs tail w) := by
  obtain ⟨len, two, sl1, sign, dil, din, dot, nodot, int, byte, hz, zero, zend, hm, mzero, mend⟩ := hd
  have hcell : ∀ k, k < n → w.cell? ⟨h, k, none⟩ = some (.int .u8 (xs.getD k 0)) := fun k hk => hb.cell k (by omega)
  have HB := Lib.hid hb
  have HL := Lib.hid len
  have HSG := Lib.hid sign
  have HDOT := Lib.hid dot
  have HINT := Lib.hid int
  have HBY := Lib.hid byte
  have HZERO := Lib.hid zero
  have HZEND := Lib.hid zend
  have HMZ := Lib.hid mzero
  have HME := Lib.hid mend
  have HC := Lib.hid hcell
  have HND := Lib.hid nodot
  clear hb len sign dot int byte zero zend mzero mend hcell nodot
  have i0 : (0 : Int) < (n : Int) := by omega
  go_enter Try.func19, Try.ntmps19
  go_upto_region 7 with (fail)
  go_cut [35] (fun v35 wc => ∃ sb : Bool, v35 = .bool sb ∧ (sb = true ↔ sl = 1) ∧ w = wc)
  case first =>
    -- [[
    as_aux_lemma =>
      have c0 := HC.out 0 (by omega)
      obtain ⟨c, hcd⟩ : ∃ c, xs.getD 0 0 = c := ⟨_, rfl⟩
      rw [hcd] at c0
      by_cases h1 : sl = 1
      · rcases HSG.out.1 h1 with ⟨hc, hn⟩ | ⟨hc, hn⟩
        · rw [hcd] at hc
          subst hc
          have HCD := Lib.hid hcd
          clear hcd hn
          go_wp2_with fail
          go_meet
          case rel => exact ⟨true, rfl, by simp [h1], rfl⟩
        · rw [hcd] at hc
          subst hc
          have HCD := Lib.hid hcd
          clear hcd hn
          go_wp2_with fail
          go_meet
          case rel => exact ⟨true, rfl, by simp [h1], rfl⟩
      · obtain ⟨_, e1, e2⟩ := HSG.out.2 (by omega)
        rw [hcd] at e1 e2
        have f1 : (c == 45) = false := by simpa using e1
        have f2 : (c == 43) = false := by simpa using e2
        clear hcd e1 e2
        go_wp2_with fail
        go_meet
        case rel => exact ⟨false, rfl, by simp [h1], rfl⟩
    -- ]]
  case rest =>
    obtain ⟨sb, rfl, hsb, rfl⟩ := hcut
    have HSB := Lib.hid hsb
    clear hsb
    go_upto_if 35 with (fail)
    go_cut [5, 6] (fun v5 v6 wc => v5 = .bool neg ∧ v6 = .int .i64 (sl : Nat) ∧ w = wc)
    case first =>
      -- [[
      as_aux_lemma =>
        have c0 := HC.out 0 (by omega)
        obtain ⟨c, hcd⟩ : ∃ c, xs.getD 0 0 = c := ⟨_, rfl⟩
        rw [hcd] at c0
        cases sb with
        | true =>
          have h1 : sl = 1 := HSB.out.1 rfl
          rcases HSG.out.1 h1 with ⟨hc, hn⟩ | ⟨hc, hn⟩
          · rw [hcd] at hc
            subst hc
            have HCD := Lib.hid hcd
            have HN := Lib.hid hn
            have H1 := Lib.hid h1
            clear hcd hn h1
            go_wp2_with fail
            go_meet
            case rel => exact ⟨by rw [HN.out], by rw [H1.out]; rfl, rfl⟩
          · rw [hcd] at hc
            subst hc
            have HCD := Lib.hid hcd
            have HN := Lib.hid hn
            have H1 := Lib.hid h1
            clear hcd hn h1
            go_wp2_with fail
            go_meet
            case rel => exact ⟨by rw [HN.out], by rw [H1.out]; rfl, rfl⟩
        | false =>
          have h1 : ¬ sl = 1 := fun hh => by have := HSB.out.2 hh; cases this
          obtain ⟨hn, _, _⟩ := HSG.out.2 (by omega)
          have h0 : sl = 0 := by omega
          have HN := Lib.hid hn
          have H0 := Lib.hid h0
          clear hcd hn h0 h1
          go_wp2_with fail
          go_meet
          case rel => exact ⟨by rw [HN.out], by rw [H0.out]; rfl, rfl⟩
      -- ]]
    case rest =>
      obtain ⟨rfl, rfl, rfl⟩ := hcut
      have HSLN : sl ≤ n := by omega
      go_upto_block 0 with (fail)
      go_cut [7] (fun v7 wc => v7 = .int .i64 (if di < n then (di : Int) else -1) ∧ w = wc)
      case first =>
        -- [[
        as_aux_lemma =>
          have j0 : (0 : Int) ≤ (sl : Int) := by omega
          have j1 : (sl : Int) ≤ (n : Int) := by omega
          have j2 : (n : Int) ≤ (cap : Int) := by omega
          have j3 : ¬ cap = sl := by omega
          go_wp2_with fail
          go_loopw [7, 46] (fun v7 v46 wr => ∃ k : Nat, sl + k ≤ di ∧ v46 = .int .i64 (k : Nat) ∧ v7 = .int .i64 (-1) ∧ w = wr) (fun _ v46 _ => n - (intOf v46).toNat)
          case atStart => exact ⟨0, by omega, rfl, rfl, (by first | rfl | trivial)⟩
          case round =>
            obtain ⟨k, hk, rfl, rfl, rfl⟩ := hrel
            by_cases hlt : sl + k < n
            · have c0 := HC.out (sl + k) hlt
              have hbb := HBY.out (sl + k)
              obtain ⟨c, hcd⟩ : ∃ c, xs.getD (sl + k) 0 = c := ⟨_, rfl⟩
              rw [hcd] at c0 hbb
              have hb0 := hbb.1
              have hb1 := hbb.2
              by_cases hdi : sl + k = di
              · have h46 := HDOT.out (by omega)
                rw [← hdi, hcd] at h46
                have hif : (if di < n then (di : Int) else -1) = (sl : Int) + (k : Int) := by rw [if_pos (by omega)]; omega
                have HIF := Lib.hid hif
                obtain ⟨rfl, _⟩ := h46
                clear hcd hif hbb hdi
                go_wp2_with fail
                go_meet
                case rel => exact ⟨by rw [HIF.out], (by first | rfl | trivial)⟩
              · have hne := HINT.out (sl + k) (by omega) (by omega)
                rw [hcd] at hne
                have e1 : (c == 46) = false := by simpa using hne
                clear hcd hbb hne
                go_wp2_with fail
                go_roundw
                case rel => exact ⟨k + 1, by omega, by go_num, rfl, (by first | rfl | trivial)⟩
                case measure => simp [intOf]; omega
            · have hif : (if di < n then (di : Int) else -1) = -1 := by rw [if_neg (by omega)]
              have HIF := Lib.hid hif
              clear hif
              go_wp2_with fail
              go_meet
              case rel => exact ⟨by rw [HIF.out], (by first | rfl | trivial)⟩
        -- ]]
      case rest =>
        obtain ⟨rfl, rfl⟩ := hcut
        obtain ⟨dv, hdv⟩ : ∃ dv : Int, (if di < n then (di : Int) else -1) = dv := ⟨_, rfl⟩
        rw [hdv]
        have HDV := Lib.hid hdv
        clear hdv
        go_upto_if 58 with (fail)
        go_cut [7] (fun v7 wc => v7 = .int .i64 (di : Nat) ∧ w = wc)
        case first =>
          -- [[
          as_aux_lemma =>
            by_cases hdn : di < n
            · have h1 : dv = (di : Int) := by rw [← HDV.out, if_pos hdn]
              subst h1
              go_wp2_with fail
              go_meet
              case rel => exact ⟨rfl, rfl⟩
            · have h1 : dv = -1 := by rw [← HDV.out, if_neg hdn]
              have h2 : di = n := by omega
              have H2 := Lib.hid h2
              subst h1
              clear h2
              go_wp2_with fail
              go_meet
              case rel => exact ⟨by rw [H2.out], rfl⟩
          -- ]]
        case rest =>
          obtain ⟨rfl, rfl⟩ := hcut
          clear HDV
          obtain ⟨st, hst⟩ : ∃ st, (if sl + z = di ∧ di = n then n - 1 else sl + z) = st := ⟨_, rfl⟩
          have HST := Lib.hid hst
          have hst1 : st ≤ n - 1 := by
            rw [← hst]
            split
            · omega
            · rename_i hh
              rcases Nat.lt_or_ge di n with h1 | h1
              · have := HDOT.out h1; omega
              · omega
          have hst2 : sl ≤ st := by
            rw [← hst]
            split
            · have := HND.out (by omega); omega
            · omega
          clear hst
          go_upto_block 2 with (fail)
          go_cut [6] (fun v6 wc => v6 = .int .i64 (st : Nat) ∧ w = wc)
          case first =>
            -- [[
            as_aux_lemma =>
              go_wp2_with fail
              go_loopw [6] (fun v6 wr => ∃ q : Nat, sl ≤ q ∧ q ≤ st ∧ v6 = .int .i64 (q : Nat) ∧ w = wr) (fun v6 _ => n - (intOf v6).toNat)
              case atStart => exact ⟨sl, by omega, hst2, rfl, (by first | rfl | trivial)⟩
              case round =>
                obtain ⟨q, hq0, hq1, rfl, rfl⟩ := hrel
                have c0 := HC.out q (by omega)
                obtain ⟨c, hcd⟩ : ∃ c, xs.getD q 0 = c := ⟨_, rfl⟩
                rw [hcd] at c0
                by_cases hlt : q < n - 1
                · by_cases h48 : c = 48
                  · have hnext : q + 1 ≤ st := by
                      rcases Nat.lt_or_ge q st with h1 | h1
                      · exact h1
                      · exfalso
                        have hqs : q = st := by omega
                        have hh := HST.out
                        rw [← hqs] at hh
                        split at hh
                        · omega
                        · rename_i hn
                          rcases Nat.lt_or_ge (sl + z) di with h2 | h2
                          · have := HZEND.out h2
                            rw [hh, hcd] at this
                            exact this h48
                          · have h3 : sl + z = di := by omega
                            have h4 : di < n := by omega
                            have := (HDOT.out h4).1
                            rw [← h3, hh, hcd, h48] at this
                            omega
                    subst h48
                    clear hcd
                    go_wp2_with fail
                    go_roundw
                    case rel => exact ⟨q + 1, by omega, hnext, by go_num, (by first | rfl | trivial)⟩
                    case measure => simp [intOf]; omega
                  · have e1 : (c == 48) = false := by simpa using h48
                    have hfin : q = st := by
                      rcases Nat.lt_or_ge q st with h1 | h1
                      · exfalso
                        have hh := HST.out
                        have hqz : q < sl + z := by split at hh <;> omega
                        have := HZERO.out q hq0 hqz
                        rw [hcd] at this
                        exact h48 this
                      · omega
                    have HF := Lib.hid hfin
                    clear hcd hfin
                    go_wp2_with fail
                    go_meet
                    case rel => exact ⟨by rw [HF.out], (by first | rfl | trivial)⟩
                · have hfin : q = st := by omega
                  have HF := Lib.hid hfin
                  have hlt' : ¬ (q : Int) < (n : Int) - 1 := by omega
                  clear hcd hfin
                  go_wp2_with fail
                  go_meet
                  case rel => exact ⟨by rw [HF.out], (by first | rfl | trivial)⟩
            -- ]]
          case rest =>
            obtain ⟨rfl, rfl⟩ := hcut
            obtain ⟨en, hen⟩ : ∃ en, (if di < n ∧ 0 < m then di + 1 + m else n) = en := ⟨_, rfl⟩
            obtain ⟨iv, hiv⟩ : ∃ iv, (if di = n then n - 1 else di + m) = iv := ⟨_, rfl⟩
            have HEN := Lib.hid hen
            have HIV := Lib.hid hiv
            clear hen hiv
            go_upto_block 4 with (fail)
            go_cut [8, 11] (fun v8 v11 wc => v8 = .int .i64 (en : Nat) ∧ v11 = .int .i64 (iv : Nat) ∧ w = wc)
            case first =>
              -- [[
              as_aux_lemma =>
                go_wp2_with fail
                go_loopw [8, 11] (fun v8 v11 wr => ∃ q : Nat, iv ≤ q ∧ q ≤ n - 1 ∧ v8 = .int .i64 (n : Nat) ∧ v11 = .int .i64 (q : Nat) ∧ w = wr) (fun _ v11 _ => (intOf v11).toNat)
                case atStart =>
                  have h1 : iv ≤ n - 1 := by
                    have h := HIV.out
                    split at h
                    · omega
                    · have := HDOT.out (by omega); omega
                  exact ⟨n - 1, h1, by omega, rfl, by rw [show ((n - 1 : Nat) : Int) = (n : Int) - 1 from by omega], (by first | rfl | trivial)⟩
                case round =>
                  obtain ⟨q, hq0, hq1, rfl, rfl, rfl⟩ := hrel
                  have c0 := HC.out q (by omega)
                  obtain ⟨c, hcd⟩ : ∃ c, xs.getD q 0 = c := ⟨_, rfl⟩
                  rw [hcd] at c0
                  by_cases hlt : di < q
                  · have hdn : di < n := by omega
                    have hivv : iv = di + m := by have h := HIV.out; rw [if_neg (by omega)] at h; exact h.symm
                    by_cases h48 : c = 48
                    · have hnext : iv ≤ q - 1 := by
                        rcases Nat.lt_or_ge iv q with h1 | h1
                        · omega
                        · exfalso
                          have hqe : q = di + m := by omega
                          have := HME.out (by omega)
                          rw [← hqe, hcd] at this
                          exact this h48
                      subst h48
                      clear hcd hivv
                      go_wp2_with fail
                      go_roundw
                      case rel => exact ⟨q - 1, hnext, by omega, rfl, by rw [show ((q - 1 : Nat) : Int) = (q : Int) - 1 from by omega], (by first | rfl | trivial)⟩
                      case measure => simp [intOf]; omega
                    · have e1 : (c != 48) = true := by simpa using h48
                      have hqe : q = di + m := by
                        rcases Nat.lt_or_ge (di + m) q with h1 | h1
                        · exfalso
                          have := HMZ.out q (by omega) (by omega)
                          rw [hcd] at this
                          exact h48 this
                        · omega
                      have hene : en = q + 1 := by have h := HEN.out; rw [if_pos ⟨hdn, by omega⟩] at h; omega
                      have HF := Lib.hid hene
                      have HG := Lib.hid (show iv = q by omega)
                      clear hcd hivv hqe hene h48
                      go_wp2_with fail
                      go_meet
                      case rel => exact ⟨by rw [HF.out]; go_num, by rw [HG.out], (by first | rfl | trivial)⟩
                  · have hqi : iv = q := by
                      have h := HIV.out
                      split at h
                      · omega
                      · omega
                    have hene : en = n := by
                      have h := HEN.out
                      split at h
                      · have hi := HIV.out
                        rw [if_neg (by omega)] at hi
                        omega
                      · exact h.symm
                    have HF := Lib.hid hene
                    have HG := Lib.hid hqi
                    have hlt' : ¬ (di : Int) < (q : Int) := by omega
                    clear hcd hqi hene
                    go_wp2_with fail
                    go_meet
                    case rel => exact ⟨by rw [HF.out], by rw [HG.out], (by first | rfl | trivial)⟩
              -- ]]
            case rest =>
              obtain ⟨rfl, rfl, rfl⟩ := hcut
              have hcs : st < n := by omega
              have hcst : ¬ cap = st := by omega
              have g0 : (0 : Int) ≤ (st : Int) := by omega
              have g1 : (st : Int) < (cap : Int) := by omega
              have c0 := HC.out st hcs
              by_cases hzero : sl + z = di ∧ m = 0
              · by_cases hdn : di = n
                · have hst' : st = n - 1 := by have h := HST.out; rw [if_pos ⟨hzero.1, hdn⟩] at h; exact h.symm
                  have hiv' : iv = n - 1 := by have h := HIV.out; rw [if_pos hdn] at h; exact h.symm
                  have hen' : en = n := by have h := HEN.out; rw [if_neg (by omega)] at h; exact h.symm
                  have hx : xs.getD st 0 = 48 := HZERO.out st (by omega) (by have := HND.out hdn; omega)
                  rw [hx] at c0
                  have f1 : ((iv : Int) == (di : Int)) = false := by simp; omega
                  obtain rfl : en = st + 1 := by omega
                  have g3 : (st : Int) + 1 ≤ (cap : Int) := by omega
                  have HX := Lib.hid hx
                  have HEN' := Lib.hid hen'
                  have HST' := Lib.hid hst'
                  clear hx hen' hst' hiv' hdn
                  go_wp2_with fail
                  go_ret
                  have h1 := HEN'.out
                  have h2 := HST'.out
                  refine ⟨st, st + 1, xs, by simp, HB.out, grownBy_refl' w _, HL.out, by omega, by omega, ?_⟩
                  rw [if_pos hzero]
                  exact ⟨by omega, HX.out⟩
                · have hst' : st = di := by have h := HST.out; rw [if_neg (by omega)] at h; omega
                  have hiv' : iv = di := by have h := HIV.out; rw [if_neg hdn] at h; omega
                  have f1 : ((iv : Int) == (di : Int)) = true := by simp; omega
                  have f2 : ((st : Int) == (di : Int)) = true := by simp; omega
                  have g3 : (st : Int) + 1 ≤ (cap : Int) := by omega
                  have hfz := HB.out.frozen st
                  have hb2 := HB.out.set st (by rw [HL.out]; exact hcs) 48
                  have HB2 := Lib.hid hb2
                  clear hst' hiv' hdn hb2
                  go_wp2_with fail
                  go_ret
                  refine ⟨st, st + 1, xs.set st 48, by simp, HB2.out, grownBy_set w h st _, by rw [List.length_set]; exact HL.out, by omega, by omega, ?_⟩
                  rw [if_pos hzero]
                  exact ⟨rfl, by rw [List.getD_eq_getElem?_getD, List.getElem?_set_self (by rw [HL.out]; exact hcs)]; rfl⟩
              · have hst' : st = sl + z := by
                  have h := HST.out
                  split at h
                  · rename_i hh
                    exfalso
                    rcases hm with h1 | h1 <;> omega
                  · exact h.symm
                by_cases hdn : di = n
                · have hm0 : m = 0 := by omega
                  have hiv' : iv = n - 1 := by have h := HIV.out; rw [if_pos hdn] at h; exact h.symm
                  have hen0 : en = n := by have h := HEN.out; rw [if_neg (by omega)] at h; exact h.symm
                  have hen' : en = (if m = 0 then di else di + 1 + m) := by rw [if_pos hm0]; omega
                  have hne := HZEND.out (by omega)
                  rw [← hst'] at hne
                  obtain ⟨c, hcd⟩ : ∃ c, xs.getD st 0 = c := ⟨_, rfl⟩
                  rw [hcd] at hne c0
                  have e48 : (c == 48) = false := by simpa using hne
                  have f1 : ((iv : Int) == (di : Int)) = false := by simp; omega
                  have g2 : (st : Int) ≤ (en : Int) := by omega
                  have g3 : (en : Int) ≤ (cap : Int) := by omega
                  have g4 : st ≤ en ∧ en ≤ n := by omega
                  have g5 : 1 ≤ en := by omega
                  clear hcd hne hdn hm0 hiv' hen0
                  by_cases hlast : st = en - 1
                  · obtain rfl : en = st + 1 := by omega
                    clear hlast g2
                    cases neg with
                    | true =>
                      -- [[
                      as_aux_lemma =>
                        have hsl : sl ≠ 0 := fun h0 => by have := (HSG.out.2 h0).1; cases this
                        have hs1 : 1 ≤ st := by omega
                        have hb2 := (HB.out.set (st - 1) (by rw [HL.out]; omega) 45)
                        have hfz := HB.out.frozen (st - 1)
                        have hcz := HC.out (st - 1) (by omega)
                        have ea : ((st - 1 : Nat) : Int) = (st : Int) - 1 := by omega
                        have en1 : ((st : Int) - 1).toNat = st - 1 := by omega
                        have hcst1 : ¬ cap = st - 1 := by omega
                        have HB2 := Lib.hid hb2
                        have HSZ := Lib.hid hst'
                        have HEZ := Lib.hid hen'
                        clear hb2 hst' hen'
                        go_wp2_with fail
                        go_ret
                        refine ⟨st - 1, st + 1, xs.set (st - 1) 45, by simp, HB2.out, grownBy_set w h (st - 1) _, by rw [List.length_set]; exact HL.out, by omega, by omega, ?_⟩
                        rw [if_neg hzero]
                        have hst' := HSZ.out
                        have hen' := HEZ.out
                        refine ⟨by omega, ?_, fun k hk0 hk1 => ?_⟩
                        · rw [if_pos rfl]
                          exact ⟨by omega, by rw [List.getD_eq_getElem?_getD, List.getElem?_set_self (by rw [HL.out]; omega)]; rfl⟩
                        · rw [List.getD_eq_getElem?_getD, List.getElem?_set_ne (by omega), List.getD_eq_getElem?_getD]
                      -- ]]
                    | false =>
                      -- [[
                      as_aux_lemma =>
                        have HSZ := Lib.hid hst'
                        have HEZ := Lib.hid hen'
                        clear hst' hen'
                        go_wp2_with fail
                        go_ret
                        refine ⟨st, st + 1, xs, by simp, HB.out, grownBy_refl' w _, HL.out, by omega, by omega, ?_⟩
                        rw [if_neg hzero]
                        have hst' := HSZ.out
                        have hen' := HEZ.out
                        exact ⟨by omega, by rw [if_neg (by simp)]; omega, fun k _ _ => rfl⟩
                      -- ]]
                  · have f2 : ((st : Int) == (en : Int) - 1) = false := by simp; omega
                    clear hlast
                    cases neg with
                    | true =>
                      -- [[
                      as_aux_lemma =>
                        have hsl : sl ≠ 0 := fun h0 => by have := (HSG.out.2 h0).1; cases this
                        have hs1 : 1 ≤ st := by omega
                        have hb2 := (HB.out.set (st - 1) (by rw [HL.out]; omega) 45)
                        have hfz := HB.out.frozen (st - 1)
                        have hcz := HC.out (st - 1) (by omega)
                        have ea : ((st - 1 : Nat) : Int) = (st : Int) - 1 := by omega
                        have en1 : ((st : Int) - 1).toNat = st - 1 := by omega
                        have hcst1 : ¬ cap = st - 1 := by omega
                        have HB2 := Lib.hid hb2
                        have HSZ := Lib.hid hst'
                        have HEZ := Lib.hid hen'
                        clear hb2 hst' hen'
                        go_wp2_with fail
                        go_ret
                        refine ⟨st - 1, en, xs.set (st - 1) 45, by simp, HB2.out, grownBy_set w h (st - 1) _, by rw [List.length_set]; exact HL.out, by omega, by omega, ?_⟩
                        rw [if_neg hzero]
                        have hst' := HSZ.out
                        have hen' := HEZ.out
                        refine ⟨by omega, ?_, fun k hk0 hk1 => ?_⟩
                        · rw [if_pos rfl]
                          exact ⟨by omega, by rw [List.getD_eq_getElem?_getD, List.getElem?_set_self (by rw [HL.out]; omega)]; rfl⟩
                        · rw [List.getD_eq_getElem?_getD, List.getElem?_set_ne (by omega), List.getD_eq_getElem?_getD]
                      -- ]]
                    | false =>
                      -- [[
                      as_aux_lemma =>
                        have HSZ := Lib.hid hst'
                        have HEZ := Lib.hid hen'
                        clear hst' hen'
                        go_wp2_with fail
                        go_ret
                        refine ⟨st, en, xs, by simp, HB.out, grownBy_refl' w _, HL.out, by omega, by omega, ?_⟩
                        rw [if_neg hzero]
                        have hst' := HSZ.out
                        have hen' := HEZ.out
                        exact ⟨by omega, by rw [if_neg (by simp)]; omega, fun k _ _ => rfl⟩
                      -- ]]
                · by_cases hm0 : m = 0
                  · have hiv' : iv = di := by have h := HIV.out; rw [if_neg hdn] at h; omega
                    have hen' : di = (if m = 0 then di else di + 1 + m) := by rw [if_pos hm0]
                    have f1 : ((iv : Int) == (di : Int)) = true := by simp; omega
                    have f2 : ((st : Int) == (di : Int)) = false := by simp; omega
                    have hne := HZEND.out (by omega)
                    rw [← hst'] at hne
                    obtain ⟨c, hcd⟩ : ∃ c, xs.getD st 0 = c := ⟨_, rfl⟩
                    rw [hcd] at hne c0
                    have e48 : (c == 48) = false := by simpa using hne
                    have g2 : (st : Int) ≤ (di : Int) := by omega
                    have g3 : (di : Int) ≤ (cap : Int) := by omega
                    have g4 : st ≤ di ∧ di ≤ n := by omega
                    clear hcd hne hdn hm0 hiv'
                    cases neg with
                    | true =>
                      -- [[
                      as_aux_lemma =>
                        have hsl : sl ≠ 0 := fun h0 => by have := (HSG.out.2 h0).1; cases this
                        have hs1 : 1 ≤ st := by omega
                        have hb2 := (HB.out.set (st - 1) (by rw [HL.out]; omega) 45)
                        have hfz := HB.out.frozen (st - 1)
                        have hcz := HC.out (st - 1) (by omega)
                        have ea : ((st - 1 : Nat) : Int) = (st : Int) - 1 := by omega
                        have en1 : ((st : Int) - 1).toNat = st - 1 := by omega
                        have hcst1 : ¬ cap = st - 1 := by omega
                        have HB2 := Lib.hid hb2
                        have HSZ := Lib.hid hst'
                        have HEZ := Lib.hid hen'
                        clear hb2 hst' hen'
                        go_wp2_with fail
                        go_ret
                        refine ⟨st - 1, di, xs.set (st - 1) 45, by simp, HB2.out, grownBy_set w h (st - 1) _, by rw [List.length_set]; exact HL.out, by omega, by omega, ?_⟩
                        rw [if_neg hzero]
                        have hst' := HSZ.out
                        have hen' := HEZ.out
                        refine ⟨by omega, ?_, fun k hk0 hk1 => ?_⟩
                        · rw [if_pos rfl]
                          exact ⟨by omega, by rw [List.getD_eq_getElem?_getD, List.getElem?_set_self (by rw [HL.out]; omega)]; rfl⟩
                        · rw [List.getD_eq_getElem?_getD, List.getElem?_set_ne (by omega), List.getD_eq_getElem?_getD]
                      -- ]]
                    | false =>
                      -- [[
                      as_aux_lemma =>
                        have HSZ := Lib.hid hst'
                        have HEZ := Lib.hid hen'
                        clear hst' hen'
                        go_wp2_with fail
                        go_ret
                        refine ⟨st, di, xs, by simp, HB.out, grownBy_refl' w _, HL.out, by omega, by omega, ?_⟩
                        rw [if_neg hzero]
                        have hst' := HSZ.out
                        have hen' := HEZ.out
                        exact ⟨by omega, by rw [if_neg (by simp)]; omega, fun k _ _ => rfl⟩
                      -- ]]
                  · have hiv' : iv = di + m := by have h := HIV.out; rw [if_neg hdn] at h; omega
                    have hen0 : en = di + 1 + m := by have h := HEN.out; rw [if_pos ⟨by omega, by omega⟩] at h; exact h.symm
                    have hen' : en = (if m = 0 then di else di + 1 + m) := by rw [if_neg hm0]; exact hen0
                    have f1 : ((iv : Int) == (di : Int)) = false := by simp; omega
                    have f2 : ((st : Int) == (en : Int) - 1) = false := by simp; omega
                    have g2 : (st : Int) ≤ (en : Int) := by omega
                    have g3 : (en : Int) ≤ (cap : Int) := by omega
                    have g4 : st ≤ en ∧ en ≤ n := by omega
                    clear hdn hm0 hiv' hen0
                    cases neg with
                    | true =>
                      -- [[
                      as_aux_lemma =>
                        have hsl : sl ≠ 0 := fun h0 => by have := (HSG.out.2 h0).1; cases this
                        have hs1 : 1 ≤ st := by omega
                        have hb2 := (HB.out.set (st - 1) (by rw [HL.out]; omega) 45)
                        have hfz := HB.out.frozen (st - 1)
                        have hcz := HC.out (st - 1) (by omega)
                        have ea : ((st - 1 : Nat) : Int) = (st : Int) - 1 := by omega
                        have en1 : ((st : Int) - 1).toNat = st - 1 := by omega
                        have hcst1 : ¬ cap = st - 1 := by omega
                        have HB2 := Lib.hid hb2
                        have HSZ := Lib.hid hst'
                        have HEZ := Lib.hid hen'
                        clear hb2 hst' hen'
                        go_wp2_with fail
                        go_ret
                        refine ⟨st - 1, en, xs.set (st - 1) 45, by simp, HB2.out, grownBy_set w h (st - 1) _, by rw [List.length_set]; exact HL.out, by omega, by omega, ?_⟩
                        rw [if_neg hzero]
                        have hst' := HSZ.out
                        have hen' := HEZ.out
                        refine ⟨by omega, ?_, fun k hk0 hk1 => ?_⟩
                        · rw [if_pos rfl]
                          exact ⟨by omega, by rw [List.getD_eq_getElem?_getD, List.getElem?_set_self (by rw [HL.out]; omega)]; rfl⟩
                        · rw [List.getD_eq_getElem?_getD, List.getElem?_set_ne (by omega), List.getD_eq_getElem?_getD]
                      -- ]]
                    | false =>
                      -- [[
                      as_aux_lemma =>
                        have HSZ := Lib.hid hst'
                        have HEZ := Lib.hid hen'
                        clear hst' hen'
                        go_wp2_with fail
                        go_ret
                        refine ⟨st, en, xs, by simp, HB.out, grownBy_refl' w _, HL.out, by omega, by omega, ?_⟩
                        rw [if_neg hzero]
                        have hst' := HSZ.out
                        have hen' := HEZ.out
                        exact ⟨by omega, by rw [if_neg (by simp)]; omega, fun k _ _ => rfl⟩
                      -- ]]

end Go.Proofs.Ythfogblmcmlkhaa
