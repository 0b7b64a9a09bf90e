/-
  The contracts of strconv.LenUint, LenInt (numbers of up to three digits) and ParseInt (a sign and up to three digits).
-/
import Derived.Test.YthfogblmcmlkhaaBuf
import Derived.IntWalk
import Derived.Deep.DeepCutAuto
import Derived.Deep.CutBlock
namespace Go.Proofs.Ythfogblmcmlkhaa
open Go.RowKit
set_option linter.unusedVariables false

/-- How many digits a number below 1000 has. -/
def dl (x : Int) : Int := if x < 10 then 1 else if x < 100 then 2 else 3
/-- With its sign. -/
def li (x : Int) : Int := if x < 0 then 1 + dl (-x) else dl x
theorem LenUint_at (x : Int) (w : World) (h0 : 0 ≤ x) (h1 : x < 1000) :
    Calls Try.prog 23 #[.int .u64 x] w fun e w' => e = .returned (.int .i64 (dl x)) ∧ w = w' := by
  by_cases k1 : x < 10
  · have hl : dl x = 1 := by unfold dl; rw [if_pos k1]
    rw [hl]
    clear hl
    go_enter Try.func23, Try.ntmps23
    go_wp2
    go_ret
    exact ⟨rfl, rfl⟩
  · by_cases k2 : x < 100
    · have hl : dl x = 2 := by unfold dl; rw [if_neg k1, if_pos k2]
      rw [hl]
      clear hl
      go_enter Try.func23, Try.ntmps23
      go_wp2
      go_ret
      exact ⟨rfl, rfl⟩
    · have hl : dl x = 3 := by unfold dl; rw [if_neg k1, if_neg k2]
      rw [hl]
      clear hl
      go_enter Try.func23, Try.ntmps23
      go_wp2
      go_ret
      exact ⟨rfl, rfl⟩
theorem LenInt_at (x : Int) (w : World) (h0 : -1000 < x) (h1 : x < 1000) :
    Calls Try.prog 22 #[.int .i64 x] w fun e w' => e = .returned (.int .i64 (li x)) ∧ w = w' := by
  by_cases k1 : x < 0
  · have e1 : (x == -9223372036854775808) = false := by simp; omega
    have e2 : IntKind.i64.wrap (-x) = -x := IntWalk.i64_in _ (by omega)
    have e3 : 1 ≤ dl (-x) ∧ dl (-x) ≤ 3 := by unfold dl; split <;> (try split) <;> omega
    obtain ⟨v, hv⟩ : ∃ v, dl (-x) = v := ⟨_, rfl⟩
    have hc := fun w => LenUint_at (-x) w (by omega) (by omega)
    have hl : li x = 1 + v := by unfold li; rw [if_pos k1, hv]
    rw [hl]
    rw [hv] at e3
    simp only [hv] at hc
    clear hl hv
    obtain ⟨g0, g1⟩ := e3
    go_enter Try.func22, Try.ntmps22
    go_wp2_with fail
    refine (hc _).mono ?_
    rintro e w1 ⟨rfl, rfl⟩
    go_wp2_with fail
    go_ret
    exact ⟨rfl, rfl⟩
  · have hc := fun w => LenUint_at x w (by omega) (by omega)
    have hl : li x = dl x := by unfold li; rw [if_neg k1]
    rw [hl]
    go_enter Try.func22, Try.ntmps22
    go_wp2_with fail
    refine (hc _).mono ?_
    rintro e w1 ⟨rfl, rfl⟩
    go_wp2_with fail
    go_ret
    exact ⟨rfl, rfl⟩

/-- The number that k digits tell, from place p on. -/
def natAt (xs : List Int) (p : Nat) : Nat → Int
  | 0 => 0
  | k + 1 => natAt xs p k * 10 + (xs.getD (p + k) 0 - 48)
theorem natAt_bound {xs : List Int} {p m : Nat} (hm : m ≤ 3) (hd : ∀ k, p ≤ k → k < p + m → 48 ≤ xs.getD k 0 ∧ xs.getD k 0 ≤ 57) : ∀ k, k ≤ m → 0 ≤ natAt xs p k ∧ natAt xs p k < (if k = 0 then 1 else if k = 1 then 10 else if k = 2 then 100 else 1000) := by
  have step : ∀ k, k < m → 0 ≤ xs.getD (p + k) 0 - 48 ∧ xs.getD (p + k) 0 - 48 ≤ 9 := fun k hk => by have := hd (p + k) (by omega) (by omega); omega
  intro k hk
  have h : k = 0 ∨ k = 1 ∨ k = 2 ∨ k = 3 := by omega
  rcases h with rfl | rfl | rfl | rfl
  · simp [natAt]
  · have := step 0 (by omega); simp only [natAt]; omega
  · have := step 0 (by omega); have := step 1 (by omega); simp only [natAt]; omega
  · have := step 0 (by omega); have := step 1 (by omega); have := step 2 (by omega); simp only [natAt]; omega

set_option maxHeartbeats 1600000 in
theorem ParseInt_at (h p cap n q m : Nat) (xs : List Int) (tail : List Value) (w : World) (hb : Buf w h xs tail) (hl : xs.length = p + n) (hcap : n ≤ cap) (hn : n = q + m) (hq : q ≤ 1) (hq1 : q = 1 → xs.getD p 0 = 45) (hm0 : 1 ≤ m) (hm1 : m ≤ 3) (hd : ∀ k, p + q ≤ k → k < p + q + m → 48 ≤ xs.getD k 0 ∧ xs.getD k 0 ≤ 57) :
    Calls Try.prog 21 #[.slice (some ⟨h, p, none⟩) n cap] w fun e w' => e = .returned (.tuple #[.int .i64 (if q = 1 then -natAt xs (p + q) m else natAt xs (p + q) m), .int .i64 n]) ∧ w = w' := by
  have hcell : ∀ k, k < n → w.cell? ⟨h, p + k, none⟩ = some (.int .u8 (xs.getD (p + k) 0)) := fun k hk => hb.cell (p + k) (by omega)
  have hbd := natAt_bound hm1 hd
  have HC := Lib.hid hcell
  have HD := Lib.hid hd
  have HQ := Lib.hid hq1
  have HBD := Lib.hid hbd
  have c0 := hcell 0 (by omega)
  have hnn : (0 : Int) < (n : Int) := by omega
  have hn1 : n ≤ 4 := by omega
  clear hcell hd hq1 hbd hb
  rw [Nat.add_zero] at c0
  obtain ⟨c, hc⟩ : ∃ c, xs.getD p 0 = c := ⟨_, rfl⟩
  rw [hc] at c0
  have hqq : q = 0 ∨ q = 1 := by omega
  obtain ⟨V, hV⟩ : ∃ V, (if q = 1 then -natAt xs (p + q) m else natAt xs (p + q) m) = V := ⟨_, rfl⟩
  rw [hV]
  have HV := Lib.hid hV
  obtain ⟨nb, hnb⟩ : ∃ nb, decide (q = 1) = nb := ⟨_, rfl⟩
  have HNB := Lib.hid hnb
  clear hnb
  have HL := Lib.hid hl
  have HN := Lib.hid hn
  clear hV hl hn
  go_enter Try.func21, Try.ntmps21
  go_upto_region 3 with (fail)
  go_cut [23] (fun v23 wc => v23 = .bool nb ∧ w = wc)
  case first =>
    as_aux_lemma =>
      rcases hqq with rfl | rfl
      · have hd0 := HD.out p (by omega) (by have := HN.out; omega)
        rw [hc] at hd0
        have e1 : (c == 43) = false := by simp; omega
        have e2 : (c == 45) = false := by simp; omega
        have hnb : nb = false := HNB.out.symm
        have H2 := Lib.hid hnb
        clear hc hd0 hnb
        go_wp2_with fail
        go_meet
        case rel => exact ⟨by rw [H2.out], rfl⟩
      · have h45 := HQ.out rfl
        rw [hc] at h45
        subst h45
        have hnb : nb = true := HNB.out.symm
        have H2 := Lib.hid hnb
        clear hc hnb
        go_wp2_with fail
        go_meet
        case rel => exact ⟨by rw [H2.out], rfl⟩
  case rest =>
    obtain ⟨rfl, rfl⟩ := hcut
    go_upto_if 23 with (fail)
    go_cut [4, 5] (fun v4 v5 wc => v4 = .int .i64 (q : Nat) ∧ v5 = .bool nb ∧ w = wc)
    case first =>
      as_aux_lemma =>
        rcases hqq with rfl | rfl
        · obtain rfl : nb = false := HNB.out.symm
          clear hc
          go_wp2_with fail
          go_meet
          case rel => exact ⟨rfl, rfl, rfl⟩
        · have h45 := HQ.out rfl
          rw [hc] at h45
          subst h45
          obtain rfl : nb = true := HNB.out.symm
          clear hc
          go_wp2_with fail
          go_meet
          case rel => exact ⟨rfl, rfl, rfl⟩
    case rest =>
      obtain ⟨rfl, rfl, rfl⟩ := hcut
      clear hc c0
      have hqn : q ≤ n := by have := HN.out; omega
      go_upto_block 0 with (fail)
      go_cut [4, 7] (fun v4 v7 wc => v4 = .int .i64 (n : Nat) ∧ v7 = .int .u64 (natAt xs (p + q) m) ∧ w = wc)
      case first =>
        as_aux_lemma =>
          go_wp2_with fail
          go_loopw [4, 7] (fun v4 v7 wr => ∃ k : Nat, k ≤ m ∧ v4 = .int .i64 (q + k : Nat) ∧ v7 = .int .u64 (natAt xs (p + q) k) ∧ w = wr) (fun v4 _ _ => n - (intOf v4).toNat)
          case atStart => exact ⟨0, by omega, rfl, rfl, (by first | rfl | trivial)⟩
          case round =>
            obtain ⟨k, hk, rfl, rfl, rfl⟩ := hrel
            have hn' := HN.out
            by_cases hlt : k < m
            · have c1 := HC.out (q + k) (by omega)
              have hdd := HD.out (p + (q + k)) (by omega) (by omega)
              have hb0 := HBD.out k (by omega)
              have hb1 := HBD.out (k + 1) (by omega)
              have hnx : natAt xs (p + q) (k + 1) = natAt xs (p + q) k * 10 + (xs.getD (p + (q + k)) 0 - 48) := by rw [natAt, Nat.add_assoc p q k]
              obtain ⟨d, hdd'⟩ : ∃ d, xs.getD (p + (q + k)) 0 = d := ⟨_, rfl⟩
              obtain ⟨u, hu⟩ : ∃ u, natAt xs (p + q) k = u := ⟨_, rfl⟩
              rw [hdd'] at c1 hdd hnx
              rw [hu] at hb0 hnx ⊢
              obtain ⟨d0, d1⟩ := hdd
              have u0 := hb0.1
              have u1 : u < 1000 := by have := hb0.2; split at this <;> (try split at this) <;> (try split at this) <;> omega
              have hi : ((q + k : Nat) : Int) < (n : Int) := by omega
              have HNX := Lib.hid hnx
              have w1 : IntKind.u8.wrap (d - 48) = d - 48 := IntWalk.u8_in _ (by omega)
              clear hb0 hb1 hnx hdd' hu hn'
              go_wp2_with fail
              go_roundw
              case rel => exact ⟨k + 1, by omega, by go_num, by rw [HNX.out], (by first | rfl | trivial)⟩
              case measure => simp [intOf]; omega
            · have hkm : k = m := by omega
              subst hkm
              have hi : ¬ ((q + k : Nat) : Int) < (n : Int) := by omega
              have hqk : (n : Int) = (q : Int) + (k : Int) := by omega
              have HQK := Lib.hid hqk
              clear hqk hn'
              go_wp2_with fail
              go_meet
              case rel => exact ⟨by rw [HQK.out], rfl, (by first | rfl | trivial)⟩
      case rest =>
        obtain ⟨rfl, rfl, rfl⟩ := hcut
        have hb1 := HBD.out m (by omega)
        obtain ⟨u, hu⟩ : ∃ u, natAt xs (p + q) m = u := ⟨_, rfl⟩
        rw [hu] at hb1 ⊢
        have u0 := hb1.1
        have u1 : u < 1000 := by have := hb1.2; split at this <;> (try split at this) <;> (try split at this) <;> omega
        have hn' := HN.out
        have hne : ((n : Int) == (q : Int)) = false := by simp; omega
        have hv := HV.out
        rw [hu] at hv
        have w1 : IntKind.i64.wrap u = u := IntWalk.i64_in _ (by omega)
        have w2 : IntKind.i64.wrap (-u) = -u := IntWalk.i64_in _ (by omega)
        clear hb1 hu hn'
        rcases hqq with rfl | rfl
        · rw [if_neg (by omega)] at hv
          subst hv
          obtain rfl : nb = false := HNB.out.symm
          go_wp2_with fail
          go_ret2
          exact ⟨rfl, rfl⟩
        · rw [if_pos rfl] at hv
          subst hv
          obtain rfl : nb = true := HNB.out.symm
          go_wp2_with fail
          go_ret2
          exact ⟨rfl, rfl⟩

end Go.Proofs.Ythfogblmcmlkhaa
