/-
  The contract of spec.JSONText, and the plain law of a makers text.
-/
import Derived.Test.YthoekplablhgfaaGreatDoorMText
import Derived.Deep.DeepCutAuto
import Derived.Deep.CutBlock
import Derived.Test.YthoekplablhgfaaGreatDoorMSame

/- JMake -/
namespace Go.Proofs.YthoekplablhgfaaGreatDoor
open Go.RowKit
set_option linter.unusedVariables false

set_option maxHeartbeats 6400000 in
theorem jsonNumber_any (g B : Nat) (a b : Int) (w : World) (hm : Mk w g B a b) (ha : a ≤ 99999999999) :
    Calls Tryz.prog 20 #[.pointer (some ⟨g, 0, none⟩)] w (JPost JNum g B (a + 8) b w) := by
  have hlt := hm.lt
  have hmb : b ≤ 1000000000000 := by obtain ⟨_, _, _, _, _, _, _, _, _, _, _, _, _, _, _, _, _, _, _, _, _, h1⟩ := hm; exact h1
  go_enter Tryz.func20, Tryz.ntmps20
  go_wp2_with fail
  refine (word_any g B w.heap.size 2 _ _ jsg _ (hm.alloc _) (by omega) (RStrs.new jsg rfl rfl) (by omega) (by omega) (by omega)).mono ?_
  rintro e w1 ⟨s, hs, rfl, hm1, hg1⟩
  obtain ⟨l1, hl1, rfl⟩ := jsg_list hs
  have q1 : (strOfNums l1).size ≤ 1 := by rw [str_size]; exact len_all hl1 (by decide)
  have HG1 := Lib.hid (grownBy_trans (World.grownBy_alloc w _ _) hg1)
  have t1 := hm1.lt
  clear hg1 hm hs hlt
  go_wp2_with fail
  refine (word_any g B w1.heap.size 7 _ _ jint _ (hm1.alloc _) (by omega) (RStrs.new jint rfl rfl) (by omega) (by omega) (by omega)).mono ?_
  rintro e w2 ⟨s, hs, rfl, hm2, hg2⟩
  obtain ⟨l2, hl2, rfl⟩ := jint_list hs
  have q2 : (strOfNums l2).size ≤ 13 := by rw [str_size]; exact len_all hl2 (by decide)
  have HG2 := Lib.hid (grownBy_trans HG1.out (grownBy_trans (World.grownBy_alloc w1 _ _) hg2))
  have t2 := hm2.lt
  clear hg2 hm1 hs t1 HG1
  go_wp2_with fail
  refine (of_any g B _ b 2 _ (by omega) (by omega) hm2 (by omega)).mono ?_
  rintro e w3 ⟨r, hr0, hr1, rfl, hm3, hg3⟩
  have HG3 := Lib.hid (grownBy_trans HG2.out hg3)
  clear hg3 hm2 HG2
  have hr : r = 0 ∨ r = 1 := by omega
  obtain ⟨rb, hrb⟩ : ∃ rb : Bool, (r == 0) = rb := ⟨_, rfl⟩
  have HRB := Lib.hid hrb
  clear hrb
  go_upto_if 14 with (fail)
  go_cut [3] from 12 to 20 (fun v3 wc => ∃ t3, v3 = .string (strOfNums t3) ∧ RowKit.Hid (∃ f, (f = [] ∨ ∃ d ∈ jfrL, f = 46 :: d) ∧ t3 = l1 ++ l2 ++ f) ∧ Mk wc g B (a + 4) b ∧ RowKit.Hid (w.grownBy wc (some g)))
  case first =>
    rcases hr with rfl | rfl
    · go_wp2_with fail
      refine (word_any g B w3.heap.size 8 _ _ jfr _ (hm3.alloc _) (by omega) (RStrs.new jfr rfl rfl) (by have := hm3.lt; omega) (by omega) (by omega)).mono ?_
      rintro e w4 ⟨s, hs, rfl, hm4, hg4⟩
      obtain ⟨l3, hl3, rfl⟩ := jfr_list hs
      have q3 : (strOfNums l3).size ≤ 8 := by rw [str_size]; exact len_all hl3 (by decide)
      have HG4 := Lib.hid (grownBy_trans HG3.out (grownBy_trans (World.grownBy_alloc w3 _ _) hg4))
      clear hg4 hm3 hs HG3
      go_wp2_with fail
      go_meet
      case rel => exact ⟨l1 ++ l2 ++ 46 :: l3, by rw [show (46 : Int) :: l3 = [46] ++ l3 from rfl, str_append, str_append, str_append]; rfl, Lib.hid ⟨46 :: l3, .inr ⟨l3, hl3, rfl⟩, rfl⟩, hm4.at_most (by omega) (by omega) (by omega) (by omega), HG4⟩
    · go_wp2_with fail
      go_meet
      case rel => exact ⟨l1 ++ l2, by rw [str_append], Lib.hid ⟨[], .inl rfl, by simp⟩, hm3.at_most (by omega) (by omega) (by omega) (by omega), HG3⟩
  case rest =>
    obtain ⟨t3, rfl, HT3, hm4, HG4⟩ := hcut
    clear hm3 HG3 HRB
    have qf : (strOfNums t3).size ≤ 30 := by
      obtain ⟨f, hf, rfl⟩ := HT3.out
      have h1 := len_all (k := 1) hl1 (by decide)
      have h2 := len_all (k := 13) hl2 (by decide)
      have h3 : f.length ≤ 9 := by
        rcases hf with rfl | ⟨d, hd, rfl⟩
        · simp
        · have := len_all (k := 8) hd (by decide); simp; omega
      rw [str_size]; simp only [List.length_append]; omega
    go_wp2_with fail
    refine (of_any g B _ b 3 _ (by omega) (by omega) hm4 (by omega)).mono ?_
    rintro e w5 ⟨r5, hr50, hr51, rfl, hm5, hg5⟩
    have HG5 := Lib.hid (grownBy_trans HG4.out hg5)
    clear hg5 hm4 HG4
    by_cases h5 : r5 = 0
    · subst h5
      go_wp2_with fail
      refine (word_any g B w5.heap.size 2 _ _ je _ (hm5.alloc _) (by omega) (RStrs.new je rfl rfl) (by have := hm5.lt; omega) (by omega) (by omega)).mono ?_
      rintro e w6 ⟨s, hs, rfl, hm6, hg6⟩
      obtain ⟨l4, hl4, rfl⟩ := je_list hs
      have q4 : (strOfNums l4).size ≤ 1 := by rw [str_size]; exact len_all hl4 (by decide)
      have HG6 := Lib.hid (grownBy_trans HG5.out (grownBy_trans (World.grownBy_alloc w5 _ _) hg6))
      clear hg6 hm5 hs HG5
      go_wp2_with fail
      refine (word_any g B w6.heap.size 3 _ _ jes _ (hm6.alloc _) (by omega) (RStrs.new jes rfl rfl) (by have := hm6.lt; omega) (by omega) (by omega)).mono ?_
      rintro e w7 ⟨s, hs, rfl, hm7, hg7⟩
      obtain ⟨l5, hl5, rfl⟩ := jes_list hs
      have q5 : (strOfNums l5).size ≤ 1 := by rw [str_size]; exact len_all hl5 (by decide)
      have HG7 := Lib.hid (grownBy_trans HG6.out (grownBy_trans (World.grownBy_alloc w6 _ _) hg7))
      clear hg7 hm6 hs HG6
      go_wp2_with fail
      refine (word_any g B w7.heap.size 6 _ _ jex _ (hm7.alloc _) (by omega) (RStrs.new jex rfl rfl) (by have := hm7.lt; omega) (by omega) (by omega)).mono ?_
      rintro e w8 ⟨s, hs, rfl, hm8, hg8⟩
      obtain ⟨l6, hl6, rfl⟩ := jex_list hs
      have q6 : (strOfNums l6).size ≤ 3 := by rw [str_size]; exact len_all hl6 (by decide)
      have HG8 := Lib.hid (grownBy_trans HG7.out (grownBy_trans (World.grownBy_alloc w7 _ _) hg8))
      clear hg8 hm7 hs HG7
      go_wp2_with fail
      go_ret
      obtain ⟨f, hf, hT⟩ := HT3.out
      exact ⟨t3 ++ (l4 ++ l5 ++ l6), ⟨l1, hl1, l2, hl2, f, hf, _, .inr ⟨l4, hl4, l5, hl5, l6, hl6, rfl⟩, by rw [hT]⟩, by rw [str_append t3, str_append (l4 ++ l5), str_append l4]; rfl, hm8.at_most (by omega) (by omega) (by omega) (by omega), HG8.out⟩
    · have h5' : (r5 == 0) = false := by simpa using h5
      go_wp2_with fail
      go_ret
      obtain ⟨f, hf, hT⟩ := HT3.out
      exact ⟨t3, ⟨l1, hl1, l2, hl2, f, hf, [], .inl rfl, by rw [hT, List.append_nil]⟩, rfl, hm5.at_most (by omega) (by omega) (by omega) (by omega), HG5.out⟩

end Go.Proofs.YthoekplablhgfaaGreatDoor

/- JMake2 -/
namespace Go.Proofs.YthoekplablhgfaaGreatDoor
open Go.RowKit
set_option linter.unusedVariables false

theorem Mk.hi {w : World} {g B : Nat} {a b : Int} (h : Mk w g B a b) : a ≤ 1000000000000 ∧ b ≤ 1000000000000 := by
  obtain ⟨_, _, _, _, _, _, _, _, _, _, _, _, _, _, _, _, _, _, _, _, h1, h2⟩ := h
  exact ⟨h1, h2⟩
theorem jcaps : ∀ d, d ≤ 5 → jcap d ≤ 33000 ∧ jtake d ≤ 4000 ∧ jhow d ≤ 1600
  | 0, _ => by decide
  | 1, _ => by decide
  | 2, _ => by decide
  | 3, _ => by decide
  | 4, _ => by decide
  | 5, _ => by decide
  | d + 6, h => by omega
/-- What json makes. -/
def JOne (d : Nat) (t : List Int) : Prop := t.length ≤ jcap d ∧ ∃ v, JMade d v t

set_option maxHeartbeats 12800000 in
theorem json_any (d : Nat) : ∀ (dp : Nat), 1 ≤ d → dp + d = 5 → ∀ (g B : Nat) (a b : Int) (w : World), Mk w g B a b → a ≤ 1000000 + 20000 * (dp : Int) → b ≤ 1000000 + 20000 * (dp : Int) →
    Calls Tryz.prog 12 #[.pointer (some ⟨g, 0, none⟩), .int .i64 (dp : Nat)] w (JPost (JOne d) g B (a + (jtake d : Nat)) (b + (jhow d : Nat)) w) := by
  induction d with
  | zero => exact fun _ h => absurd h (by omega)
  | succ d ih0 =>
    intro dp _ hdp g B a b w hm ha hb
    have ih := ih0 (dp + 1)
    rw [show ((dp + 1 : Nat) : Int) = (dp : Int) + 1 from by omega] at ih
    have hdp5 : (dp : Int) ≤ 4 := by omega
    clear ih0
    obtain ⟨hc1, hc2, hc3⟩ := jcaps d (by omega)
    obtain ⟨C, hC⟩ : ∃ C, jcap d = C := ⟨_, rfl⟩
    obtain ⟨T, hT⟩ : ∃ T, jtake d = T := ⟨_, rfl⟩
    obtain ⟨H, hH⟩ : ∃ H, jhow d = H := ⟨_, rfl⟩
    have eC : jcap (d + 1) = 60 + 3 * (70 + C) := by simp only [jcap, hC]
    have eT : jtake (d + 1) = 12 + 3 * (6 + T) := by simp only [jtake, hT]
    have eH : jhow (d + 1) = 1 + 3 * (4 + H) := by simp only [jhow, hH]
    rw [eT, eH]
    rw [hC] at hc1
    rw [hT] at hc2
    rw [hH] at hc3
    have HEC := Lib.hid eC
    have HCC := Lib.hid hC
    have HTT := Lib.hid hT
    have HHH := Lib.hid hH
    have IH := Lib.hid ih
    clear eC eT eH hC hT hH ih
    have hlt := hm.lt
    obtain ⟨N, hN0, hN1⟩ : ∃ N : Int, (N = 5 ∨ N = 7) ∧ (N = 7 → 1 ≤ d ∧ dp ≤ 3) := by
      by_cases h4 : dp = 4
      · exact ⟨5, .inl rfl, fun h => by omega⟩
      · exact ⟨7, .inr rfl, fun _ => by omega⟩
    go_enter Tryz.func12, Tryz.ntmps12
    go_upto_if 11 with (fail)
    go_cut [5] from 10 to 11 (fun v5 wc => ∃ N : Int, v5 = .int .i64 N ∧ (N = 5 ∨ N = 7) ∧ (N = 7 → 1 ≤ d) ∧ w = wc)
    case first =>
      by_cases h4 : (3 : Int) < (dp : Int)
      · go_wp2_with fail
        go_meet
        case rel => exact ⟨5, rfl, .inl rfl, fun h => by omega, rfl⟩
      · have h4' : dp ≤ 3 := by omega
        go_wp2_with fail
        go_meet
        case rel => exact ⟨7, rfl, .inr rfl, fun h => by omega, rfl⟩
    case rest =>
      clear hN0 hN1
      obtain ⟨N, rfl, hN0, hN1, rfl⟩ := hcut
      have hN57 : 5 ≤ N ∧ N ≤ 7 := by omega
      have HN0 := Lib.hid hN0
      have HN1 := Lib.hid hN1
      clear hN0 hN1
      go_wp2_with fail
      refine (of_any g B a b N _ (by omega) (by omega) hm (by omega)).mono ?_
      rintro e w1 ⟨r, hr0, hr1, rfl, hm1, hg1⟩
      have HG1 := Lib.hid hg1
      clear hm hg1 hlt
      have hr : r = 0 ∨ (r = 1 ∨ r = 2) ∨ (r = 3 ∨ r = 4) ∨ ((r = 5 ∨ r = 6) ∧ 1 ≤ d) := by
        have h0 := HN0.out
        have h1 := HN1.out
        rcases h0 with h0 | h0
        · omega
        · have := h1 h0
          omega
      clear HN0 HN1
      rcases hr with rfl | hr | hr | ⟨hr, hd⟩
      · go_wp2_with fail
        refine (word_any g B w1.heap.size 3 _ _ jlit _ (hm1.alloc _) (by omega) (RStrs.new jlit rfl rfl) (by have := hm1.lt; omega) (by omega) (by omega)).mono ?_
        rintro e w2 ⟨s, hs, rfl, hm2, hg2⟩
        obtain ⟨l, hl, rfl⟩ := jlit_list hs
        have HG2 := Lib.hid (grownBy_trans HG1.out (grownBy_trans (World.grownBy_alloc w1 _ _) hg2))
        clear hg2 hm1 hs HG1
        go_wp2_with fail
        go_ret
        exact ⟨l, ⟨by rw [HEC.out]; have := len_all (k := 5) hl (by decide); omega, .lit l, hl, rfl⟩, rfl, hm2.at_most (by omega) (by omega) (by omega) (by omega), HG2.out⟩
      · rcases hr with rfl | rfl
        · go_wp2_with fail
          refine (jsonNumber_any g B _ _ w1 hm1 (by omega)).mono ?_
          rintro e w2 ⟨l, hl, rfl, hm2, hg2⟩
          have HG2 := Lib.hid (grownBy_trans HG1.out hg2)
          clear hg2 hm1 HG1
          go_wp2_with fail
          go_ret
          exact ⟨l, ⟨by rw [HEC.out]; have := hl.len; omega, .num l, hl, rfl⟩, rfl, hm2.at_most (by omega) (by omega) (by omega) (by omega), HG2.out⟩
        · go_wp2_with fail
          refine (jsonNumber_any g B _ _ w1 hm1 (by omega)).mono ?_
          rintro e w2 ⟨l, hl, rfl, hm2, hg2⟩
          have HG2 := Lib.hid (grownBy_trans HG1.out hg2)
          clear hg2 hm1 HG1
          go_wp2_with fail
          go_ret
          exact ⟨l, ⟨by rw [HEC.out]; have := hl.len; omega, .num l, hl, rfl⟩, rfl, hm2.at_most (by omega) (by omega) (by omega) (by omega), HG2.out⟩
      · rcases hr with rfl | rfl
        · go_wp2_with fail
          refine (jsonString_any g B _ _ w1 hm1 (by omega)).mono ?_
          rintro e w2 ⟨l, hl, rfl, hm2, hg2⟩
          have HG2 := Lib.hid (grownBy_trans HG1.out hg2)
          clear hg2 hm1 HG1
          go_wp2_with fail
          go_ret
          exact ⟨l, ⟨by rw [HEC.out]; have := hl.len; omega, .str l, hl, rfl⟩, rfl, hm2.at_most (by omega) (by omega) (by omega) (by omega), HG2.out⟩
        · go_wp2_with fail
          refine (jsonString_any g B _ _ w1 hm1 (by omega)).mono ?_
          rintro e w2 ⟨l, hl, rfl, hm2, hg2⟩
          have HG2 := Lib.hid (grownBy_trans HG1.out hg2)
          clear hg2 hm1 HG1
          go_wp2_with fail
          go_ret
          exact ⟨l, ⟨by rw [HEC.out]; have := hl.len; omega, .str l, hl, rfl⟩, rfl, hm2.at_most (by omega) (by omega) (by omega) (by omega), HG2.out⟩
      · rcases hr with rfl | rfl
        · -- [[
          go_wp2_with fail
          refine (jsonSpace_any g B _ _ w1 hm1 (by omega)).mono ?_
          rintro e w2 ⟨s0, hs0, rfl, hm2, hg2⟩
          have q0 : (strOfNums s0).size ≤ 2 := by rw [str_size]; exact jws_len hs0
          have HG2 := Lib.hid (grownBy_trans HG1.out hg2)
          clear hg2 hm1 HG1
          go_wp2_with fail
          refine (of_any g B _ _ 4 _ (by omega) (by omega) hm2 (by omega)).mono ?_
          rintro e w3 ⟨n, hn0, hn1, rfl, hm3, hg3⟩
          have HG3 := Lib.hid (grownBy_trans HG2.out hg3)
          clear hg3 hm2 HG2
          go_wp2_with fail
          go_loopw [6, 37] (fun v6 v37 wr => ∃ (i : Nat) (t : List Int) (l : List JVal), (i : Int) ≤ n ∧ v37 = .int .i64 (i : Nat) ∧ v6 = .string (strOfNums t) ∧ RowKit.Hid (∃ u, t = 91 :: s0 ++ u ∧ l.length = i ∧ Items (JMade d) l u ∧ u.length ≤ i * (70 + C)) ∧ Mk wr g B (a + 2 + ((i * (6 + T) : Nat) : Int)) (b + 1 + ((i * (4 + H) : Nat) : Int)) ∧ RowKit.Hid (w.grownBy wr (some g))) (fun _ v37 _ => (n - intOf v37).toNat)
          case atStart => exact ⟨0, 91 :: s0, [], by omega, rfl, rfl, Lib.hid ⟨[], by simp, rfl, rfl, by simp⟩, hm3.at_most (by omega) (by omega) (by omega) (by omega), HG3⟩
          case round =>
            clear hm3 HG3
            obtain ⟨i, t, l, hi, rfl, rfl, HU, hm, HG⟩ := hrel
            have hm' := hm.hi
            have k1 : (i + 1) * (6 + T) = i * (6 + T) + (6 + T) := Nat.succ_mul _ _
            have k2 : (i + 1) * (4 + H) = i * (4 + H) + (4 + H) := Nat.succ_mul _ _
            have k3 : (i + 1) * (70 + C) = i * (70 + C) + (70 + C) := Nat.succ_mul _ _
            have k4 : i * (6 + T) ≤ 3 * (6 + T) := Nat.mul_le_mul_right _ (by omega)
            have k5 : i * (4 + H) ≤ 3 * (4 + H) := Nat.mul_le_mul_right _ (by omega)
            have k6 : i * (70 + C) ≤ 3 * (70 + C) := Nat.mul_le_mul_right _ (by omega)
            have q1 : (strOfNums t).size ≤ 110000 := by
              obtain ⟨u, rfl, _, _, hu⟩ := HU.out
              have := jws_len hs0
              rw [str_size]
              simp
              omega
            obtain ⟨X1, hX1⟩ : ∃ X1, i * (6 + T) = X1 := ⟨_, rfl⟩
            obtain ⟨X2, hX2⟩ : ∃ X2, i * (4 + H) = X2 := ⟨_, rfl⟩
            rw [hX1] at hm k1 k4 hm'
            rw [hX2] at hm k2 k5 hm'
            have KX := Lib.hid (And.intro k1 (And.intro k2 k3))
            have HX := Lib.hid (And.intro hX1 hX2)
            clear k1 k2 k3 k6 hX1 hX2
            by_cases hlt : (i : Int) < n
            · have hi2 : i ≤ 2 := by omega
              have hlt' := hm.lt
              go_upto_if 41 with (fail)
              go_cut [6] from 39 to 46 (fun v6 wc => ∃ t1, v6 = .string (strOfNums t1) ∧ RowKit.Hid ((i = 0 ∧ t1 = t) ∨ (1 ≤ i ∧ ∃ s1 ∈ jwsL, t1 = t ++ 44 :: s1)) ∧ Mk wc g B (a + 2 + (X1 : Int)) (b + 2 + (X2 : Int)) ∧ RowKit.Hid (w.grownBy wc (some g)))
              case first =>
                by_cases h0 : i = 0
                · subst h0
                  go_wp2_with fail
                  go_meet
                  case rel => exact ⟨t, rfl, Lib.hid (.inl ⟨by first | rfl | trivial, rfl⟩), hm.at_most (by omega) (by omega) (by omega) (by omega), HG⟩
                · have h0' : 0 < i := by omega
                  have h0'' : (0 : Int) < (i : Int) := by omega
                  go_wp2_with fail
                  refine (jsonSpace_any g B _ _ _ hm (by omega)).mono ?_
                  rintro e w4 ⟨s1, hs1, rfl, hm4, hg4⟩
                  have q2 : (strOfNums s1).size ≤ 2 := by rw [str_size]; exact jws_len hs1
                  have HG4 := Lib.hid (grownBy_trans HG.out hg4)
                  clear hg4 hm HG
                  go_wp2_with fail
                  go_meet
                  case rel => exact ⟨t ++ 44 :: s1, by rw [str_append, show (44 : Int) :: s1 = [44] ++ s1 from rfl, str_append]; rfl, Lib.hid (.inr ⟨h0', s1, hs1, rfl⟩), hm4.at_most (by omega) (by omega) (by omega) (by omega), HG4⟩
              case rest =>
                obtain ⟨t1, rfl, HT1, hm4, HG4⟩ := hcut
                have q3 : (strOfNums t1).size ≤ 110100 := by
                  rw [str_size] at q1 ⊢
                  rcases HT1.out with ⟨_, rfl⟩ | ⟨_, s1, hs1, rfl⟩
                  · omega
                  · have := jws_len hs1; simp; omega
                clear hm HG
                go_wp2_with fail
                refine (IH.out hd (by omega) g B _ _ _ hm4 (by omega) (by omega)).mono ?_
                rintro e w5 ⟨t5, ⟨hl5, v5, hv5⟩, rfl, hm5, hg5⟩
                rw [HCC.out] at hl5
                rw [HTT.out, HHH.out] at hm5
                have q5 : (strOfNums t5).size ≤ 33000 := by rw [str_size]; omega
                have HG5 := Lib.hid (grownBy_trans HG4.out hg5)
                have HV5 := Lib.hid hv5
                clear hg5 hm4 HG4 hv5
                go_wp2_with fail
                refine (jsonSpace_any g B _ _ _ hm5 (by omega)).mono ?_
                rintro e w6 ⟨s6, hs6, rfl, hm6, hg6⟩
                have q6 : (strOfNums s6).size ≤ 2 := by rw [str_size]; exact jws_len hs6
                have HG6 := Lib.hid (grownBy_trans HG5.out hg6)
                clear hg6 hm5 HG5
                go_wp2_with fail
                go_roundw
                case rel =>
                  obtain ⟨k1, k2, k3⟩ := KX.out
                  obtain ⟨x1, x2⟩ := HX.out
                  have y1 : (i + 1) * (6 + T) = X1 + (6 + T) := by rw [k1]
                  have y2 : (i + 1) * (4 + H) = X2 + (4 + H) := by rw [k2]
                  refine ⟨i + 1, t1 ++ (t5 ++ s6), l ++ [v5], by omega, by go_num, by rw [str_append t1, str_append t5], Lib.hid ?_, hm6.at_most (by rw [y1]; omega) (by rw [y2]; omega) (by rw [y1]; omega) (by rw [y2]; omega), HG6⟩
                  obtain ⟨u, hu0, hu1, hu2, hu3⟩ := HU.out
                  have j6 := jws_len hs6
                  rcases HT1.out with ⟨hi0, ht⟩ | ⟨hi0, s1, hs1, ht⟩
                  · have hl0 : l = [] := List.eq_nil_of_length_eq_zero (by omega)
                    rw [hl0] at hu2
                    have hu4 : u = [] := hu2
                    refine ⟨t5 ++ s6, by rw [ht, hu0, hu4]; simp, by rw [hl0, hi0]; rfl, by rw [hl0]; exact Items.one HV5.out (jws_ws hs6), ?_⟩
                    rw [k3]; simp; omega
                  · have hl0 : l ≠ [] := fun e => by rw [e] at hu1; simp at hu1; omega
                    refine ⟨u ++ 44 :: s1 ++ (t5 ++ s6), by rw [ht, hu0]; simp, by simp [hu1], Items.snoc HV5.out (jws_ws hs6) (jws_ws hs1) hl0 hu2, ?_⟩
                    have j1 := jws_len hs1
                    rw [k3]; simp; omega
                case measure => simp [intOf]; omega
            · go_wp2_with fail
              go_ret
              obtain ⟨u, hu0, hu1, hu2, hu3⟩ := HU.out
              refine ⟨t ++ [93], ⟨?_, .arr l, by omega, s0, u, jws_ws hs0, hu2, by rw [hu0]⟩, by rw [str_append]; rfl, hm.at_most (by omega) (by omega) (by omega) (by omega), HG.out⟩
              have := jws_len hs0
              have k6 : i * (70 + C) ≤ 3 * (70 + C) := Nat.mul_le_mul_right _ (by omega)
              rw [HEC.out, hu0]
              simp
              omega
          -- ]]
        · -- [[
          go_wp2_with fail
          refine (jsonSpace_any g B _ _ w1 hm1 (by omega)).mono ?_
          rintro e w2 ⟨s0, hs0, rfl, hm2, hg2⟩
          have q0 : (strOfNums s0).size ≤ 2 := by rw [str_size]; exact jws_len hs0
          have HG2 := Lib.hid (grownBy_trans HG1.out hg2)
          clear hg2 hm1 HG1
          go_wp2_with fail
          refine (of_any g B _ _ 4 _ (by omega) (by omega) hm2 (by omega)).mono ?_
          rintro e w3 ⟨n, hn0, hn1, rfl, hm3, hg3⟩
          have HG3 := Lib.hid (grownBy_trans HG2.out hg3)
          clear hg3 hm2 HG2
          go_wp2_with fail
          go_loopw [8, 64] (fun v8 v64 wr => ∃ (i : Nat) (t : List Int) (l : List (List Int × JVal)), (i : Int) ≤ n ∧ v64 = .int .i64 (i : Nat) ∧ v8 = .string (strOfNums t) ∧ RowKit.Hid (∃ u, t = 123 :: s0 ++ u ∧ l.length = i ∧ Items (Pair JStr (JMade d)) l u ∧ u.length ≤ i * (70 + C)) ∧ Mk wr g B (a + 2 + ((i * (6 + T) : Nat) : Int)) (b + 1 + ((i * (4 + H) : Nat) : Int)) ∧ RowKit.Hid (w.grownBy wr (some g))) (fun _ v64 _ => (n - intOf v64).toNat)
          case atStart => exact ⟨0, 123 :: s0, [], by omega, rfl, rfl, Lib.hid ⟨[], by simp, rfl, rfl, by simp⟩, hm3.at_most (by omega) (by omega) (by omega) (by omega), HG3⟩
          case round =>
            clear hm3 HG3
            obtain ⟨i, t, l, hi, rfl, rfl, HU, hm, HG⟩ := hrel
            have hm' := hm.hi
            have k1 : (i + 1) * (6 + T) = i * (6 + T) + (6 + T) := Nat.succ_mul _ _
            have k2 : (i + 1) * (4 + H) = i * (4 + H) + (4 + H) := Nat.succ_mul _ _
            have k3 : (i + 1) * (70 + C) = i * (70 + C) + (70 + C) := Nat.succ_mul _ _
            have k4 : i * (6 + T) ≤ 3 * (6 + T) := Nat.mul_le_mul_right _ (by omega)
            have k5 : i * (4 + H) ≤ 3 * (4 + H) := Nat.mul_le_mul_right _ (by omega)
            have k6 : i * (70 + C) ≤ 3 * (70 + C) := Nat.mul_le_mul_right _ (by omega)
            have q1 : (strOfNums t).size ≤ 110000 := by
              obtain ⟨u, rfl, _, _, hu⟩ := HU.out
              have := jws_len hs0
              rw [str_size]
              simp
              omega
            obtain ⟨X1, hX1⟩ : ∃ X1, i * (6 + T) = X1 := ⟨_, rfl⟩
            obtain ⟨X2, hX2⟩ : ∃ X2, i * (4 + H) = X2 := ⟨_, rfl⟩
            rw [hX1] at hm k1 k4 hm'
            rw [hX2] at hm k2 k5 hm'
            have KX := Lib.hid (And.intro k1 (And.intro k2 k3))
            have HX := Lib.hid (And.intro hX1 hX2)
            clear k1 k2 k3 k6 hX1 hX2
            by_cases hlt : (i : Int) < n
            · have hi2 : i ≤ 2 := by omega
              have hlt' := hm.lt
              go_upto_if 68 with (fail)
              go_cut [8] from 66 to 73 (fun v8 wc => ∃ t1, v8 = .string (strOfNums t1) ∧ RowKit.Hid ((i = 0 ∧ t1 = t) ∨ (1 ≤ i ∧ ∃ s1 ∈ jwsL, t1 = t ++ 44 :: s1)) ∧ Mk wc g B (a + 2 + (X1 : Int)) (b + 2 + (X2 : Int)) ∧ RowKit.Hid (w.grownBy wc (some g)))
              case first =>
                by_cases h0 : i = 0
                · subst h0
                  go_wp2_with fail
                  go_meet
                  case rel => exact ⟨t, rfl, Lib.hid (.inl ⟨by first | rfl | trivial, rfl⟩), hm.at_most (by omega) (by omega) (by omega) (by omega), HG⟩
                · have h0' : 0 < i := by omega
                  have h0'' : (0 : Int) < (i : Int) := by omega
                  go_wp2_with fail
                  refine (jsonSpace_any g B _ _ _ hm (by omega)).mono ?_
                  rintro e w4 ⟨s1, hs1, rfl, hm4, hg4⟩
                  have q2 : (strOfNums s1).size ≤ 2 := by rw [str_size]; exact jws_len hs1
                  have HG4 := Lib.hid (grownBy_trans HG.out hg4)
                  clear hg4 hm HG
                  go_wp2_with fail
                  go_meet
                  case rel => exact ⟨t ++ 44 :: s1, by rw [str_append, show (44 : Int) :: s1 = [44] ++ s1 from rfl, str_append]; rfl, Lib.hid (.inr ⟨h0', s1, hs1, rfl⟩), hm4.at_most (by omega) (by omega) (by omega) (by omega), HG4⟩
              case rest =>
                obtain ⟨t1, rfl, HT1, hm4, HG4⟩ := hcut
                have q3 : (strOfNums t1).size ≤ 110100 := by
                  rw [str_size] at q1 ⊢
                  rcases HT1.out with ⟨_, rfl⟩ | ⟨_, s1, hs1, rfl⟩
                  · omega
                  · have := jws_len hs1; simp; omega
                clear hm HG
                go_wp2_with fail
                refine (jsonString_any g B _ _ _ hm4 (by omega)).mono ?_
                rintro e w7 ⟨t7, hk7, rfl, hm7, hg7⟩
                have q7 : (strOfNums t7).size ≤ 50 := by rw [str_size]; exact hk7.len
                have HG7 := Lib.hid (grownBy_trans HG4.out hg7)
                clear hg7 hm4 HG4
                go_wp2_with fail
                refine (jsonSpace_any g B _ _ _ hm7 (by omega)).mono ?_
                rintro e w8 ⟨s8, hs8, rfl, hm8, hg8⟩
                have q8 : (strOfNums s8).size ≤ 2 := by rw [str_size]; exact jws_len hs8
                have HG8 := Lib.hid (grownBy_trans HG7.out hg8)
                clear hg8 hm7 HG7
                go_wp2_with fail
                refine (jsonSpace_any g B _ _ _ hm8 (by omega)).mono ?_
                rintro e w9 ⟨s9, hs9, rfl, hm9, hg9⟩
                have q9 : (strOfNums s9).size ≤ 2 := by rw [str_size]; exact jws_len hs9
                have HG9 := Lib.hid (grownBy_trans HG8.out hg9)
                clear hg9 hm8 HG8
                go_wp2_with fail
                refine (IH.out hd (by omega) g B _ _ _ hm9 (by omega) (by omega)).mono ?_
                rintro e w5 ⟨t5, ⟨hl5, v5, hv5⟩, rfl, hm5, hg5⟩
                rw [HCC.out] at hl5
                rw [HTT.out, HHH.out] at hm5
                have q5 : (strOfNums t5).size ≤ 33000 := by rw [str_size]; omega
                have HG5 := Lib.hid (grownBy_trans HG9.out hg5)
                have HV5 := Lib.hid hv5
                clear hg5 hm9 HG9 hv5
                go_wp2_with fail
                refine (jsonSpace_any g B _ _ _ hm5 (by omega)).mono ?_
                rintro e w6 ⟨s6, hs6, rfl, hm6, hg6⟩
                have q6 : (strOfNums s6).size ≤ 2 := by rw [str_size]; exact jws_len hs6
                have HG6 := Lib.hid (grownBy_trans HG5.out hg6)
                clear hg6 hm5 HG5
                go_wp2_with fail
                go_roundw
                case rel =>
                  obtain ⟨k1, k2, k3⟩ := KX.out
                  obtain ⟨x1, x2⟩ := HX.out
                  have y1 : (i + 1) * (6 + T) = X1 + (6 + T) := by rw [k1]
                  have y2 : (i + 1) * (4 + H) = X2 + (4 + H) := by rw [k2]
                  refine ⟨i + 1, t1 ++ (t7 ++ s8 ++ 58 :: s9 ++ t5 ++ s6), l ++ [(t7, v5)], by omega, by go_num, by rw [str_append t1, str_append (t7 ++ s8 ++ 58 :: s9 ++ t5), str_append (t7 ++ s8 ++ 58 :: s9), str_append (t7 ++ s8), str_append t7, show (58 : Int) :: s9 = [58] ++ s9 from rfl, str_append [58]]; first | rfl | (rw [ByteArray.append_assoc (a := strOfNums t7 ++ strOfNums s8)]; rfl), Lib.hid ?_, hm6.at_most (by rw [y1]; omega) (by rw [y2]; omega) (by rw [y1]; omega) (by rw [y2]; omega), HG6⟩
                  obtain ⟨u, hu0, hu1, hu2, hu3⟩ := HU.out
                  have j6 := jws_len hs6
                  have j8 := jws_len hs8
                  have j9 := jws_len hs9
                  have j7 := hk7.len
                  have HP : Pair JStr (JMade d) (t7, v5) (t7 ++ s8 ++ 58 :: s9 ++ t5) := ⟨s8, s9, t5, hk7, jws_ws hs8, jws_ws hs9, HV5.out, rfl⟩
                  rcases HT1.out with ⟨hi0, ht⟩ | ⟨hi0, s1, hs1, ht⟩
                  · have hl0 : l = [] := List.eq_nil_of_length_eq_zero (by omega)
                    rw [hl0] at hu2
                    have hu4 : u = [] := hu2
                    refine ⟨t7 ++ s8 ++ 58 :: s9 ++ t5 ++ s6, by rw [ht, hu0, hu4]; simp, by rw [hl0, hi0]; rfl, by rw [hl0]; exact Items.one HP (jws_ws hs6), ?_⟩
                    rw [k3]; simp; omega
                  · have hl0 : l ≠ [] := fun e => by rw [e] at hu1; simp at hu1; omega
                    refine ⟨u ++ 44 :: s1 ++ (t7 ++ s8 ++ 58 :: s9 ++ t5 ++ s6), by rw [ht, hu0]; simp, by simp [hu1], Items.snoc HP (jws_ws hs6) (jws_ws hs1) hl0 hu2, ?_⟩
                    have j1 := jws_len hs1
                    rw [k3]; simp; omega
                case measure => simp [intOf]; omega
            · go_wp2_with fail
              go_ret
              obtain ⟨u, hu0, hu1, hu2, hu3⟩ := HU.out
              refine ⟨t ++ [125], ⟨?_, .obj l, by omega, s0, u, jws_ws hs0, hu2, by rw [hu0]⟩, by rw [str_append]; rfl, hm.at_most (by omega) (by omega) (by omega) (by omega), HG.out⟩
              have := jws_len hs0
              have k6 : i * (70 + C) ≤ 3 * (70 + C) := Nat.mul_le_mul_right _ (by omega)
              rw [HEC.out, hu0]
              simp
              omega
          -- ]]

/-- What JSONText makes. -/
def JForm (t : List Int) : Prop := ∃ s u s' v, JWs s ∧ JWs s' ∧ JMade 5 v u ∧ t = s ++ u ++ s' ∧ t.length ≤ 40000

set_option maxHeartbeats 3200000 in
theorem JSONText_at (A1 A2 : Option Addr) (n1 c1 n2 c2 g : Nat) (xs ys : List Int) (w : World) (hgd : w.heap.size = g) (r1 : RInts w g A1 n1 xs) (r2 : RInts w g A2 n2 ys) :
    Calls Tryz.prog 4 #[.slice A1 n1 c1, .slice A2 n2 c2] w fun e w' => ∃ t, JForm t ∧ e = .returned (.string (strOfNums t)) ∧ Below g w w' := by
  have hm0 := Mk.new (w := w) (c1 := c1) (c2 := c2) hgd r1 r2
  have hb0 : Below g w (w.alloc (.cells #[.slice A1 n1 c1, .slice A2 n2 c2, .int .i64 0, .int .i64 0, .bool false, .bool false] 37)) := (Below.refl _ _).alloc (by omega) _
  have HB0 := Lib.hid hb0
  clear hb0 r1 r2
  go_enter Tryz.func4, Tryz.ntmps4
  go_wp2_with fail
  refine (jsonSpace_any g g 0 0 _ hm0 (by omega)).mono ?_
  rintro e w1 ⟨s1, hs1, rfl, hm1, hg1⟩
  have q1 : (strOfNums s1).size ≤ 2 := by rw [str_size]; exact jws_len hs1
  have HB1 := Lib.hid (HB0.out.grown hg1 (by have := hm0.lt; omega) (by rintro k hk; injection hk with hk; omega))
  clear hg1 hm0 HB0
  go_wp2_with fail
  refine (json_any 5 0 (by omega) (by omega) g g _ _ w1 hm1 (by omega) (by omega)).mono ?_
  rintro e w2 ⟨t2, ⟨hl2, v2, hv2⟩, rfl, hm2, hg2⟩
  obtain ⟨c5, d5, e5⟩ := jcaps 5 (by omega)
  have q2 : (strOfNums t2).size ≤ 33000 := by rw [str_size]; omega
  have HB2 := Lib.hid (HB1.out.grown hg2 (by have := hm1.lt; omega) (by rintro k hk; injection hk with hk; omega))
  have HV2 := Lib.hid hv2
  have hm2' := hm2.at_most (a' := 10000) (b' := 10000) (by omega) (by omega) (by omega) (by omega)
  clear hg2 hm1 HB1 hv2 hm2
  go_wp2_with fail
  refine (jsonSpace_any g g _ _ _ hm2' (by omega)).mono ?_
  rintro e w3 ⟨s3, hs3, rfl, hm3, hg3⟩
  have q3 : (strOfNums s3).size ≤ 2 := by rw [str_size]; exact jws_len hs3
  have HB3 := Lib.hid (HB2.out.grown hg3 (by have := hm2'.lt; omega) (by rintro k hk; injection hk with hk; omega))
  clear hg3 hm2' HB2
  go_wp2_with fail
  go_ret
  refine ⟨s1 ++ t2 ++ s3, ⟨s1, t2, s3, v2, jws_ws hs1, jws_ws hs3, HV2.out, rfl, ?_⟩, by rw [str_append (s1 ++ t2), str_append s1]; rfl, HB3.out⟩
  have := jws_len hs1
  have := jws_len hs3
  simp only [List.length_append]
  omega

end Go.Proofs.YthoekplablhgfaaGreatDoor

/- JPure -/
namespace Go.Proofs.YthoekplablhgfaaGreatDoor
open Go.RowKit
set_option linter.unusedVariables false

open Classical in
/-- What is written of a maker's number. -/
noncomputable def nf (t : List Int) : List Int := if h : JNum t then Classical.choose h.out else t
theorem nf_spec {t : List Int} (h : JNum t) : NumW t (nf t) ∧ NumW (nf t) (nf t) ∧ NumTxt (nf t) ∧ valL (nf t) = valL t ∧ (nf t).length ≤ t.length ∧ NumTxt t := by
  have h1 := Classical.choose_spec h.out
  have e : nf t = Classical.choose h.out := by unfold nf; rw [dif_pos h]
  rw [e]
  exact h1
noncomputable def fk (keep : Bool) (t : List Int) : List Int := if keep = true then t else nf t
/-- A number that stays. -/
def Stays (keep : Bool) (u : List Int) : Prop := NumTxt u ∧ u.length ≤ 60 ∧ (keep = false → NumW u u)
theorem fk_tok (keep : Bool) {u : List Int} (h : JNum u) : NumTok keep u (fk keep u) ∧ Stays keep (fk keep u) ∧ valL (fk keep u) = valL u ∧ (fk keep u).length ≤ u.length := by
  obtain ⟨h1, h2, h3, h4, h5, h6⟩ := nf_spec h
  have hl := h.len
  cases keep with
  | true => exact ⟨⟨h6, by omega, fun _ => rfl, fun e => by cases e⟩, ⟨h6, by show u.length ≤ 60; omega, fun e => by cases e⟩, rfl, Nat.le_refl _⟩
  | false => exact ⟨⟨h6, by omega, (fun e => by cases e), fun _ => h1⟩, ⟨h3, by show (nf u).length ≤ 60; omega, fun _ => h2⟩, h4, h5⟩
theorem stays_tok {keep : Bool} {u : List Int} (h : Stays keep u) : NumTok keep u u := ⟨h.1, h.2.1, fun _ => rfl, h.2.2⟩

theorem txt_mono {N N' K : List Int → Prop} (hN : ∀ u, N u → N' u) : ∀ (d : Nat) (v : JVal) (t : List Int), JTxt (· ∈ jlitL) N K d v t → JTxt (· ∈ jlitL) N' K d v t := by
  intro d
  induction d with
  | zero => intro v t h; exact h.elim
  | succ d ih =>
    intro v t h
    unfold JTxt at h ⊢
    cases v with
    | lit w => exact h
    | num w => exact ⟨hN _ h.1, h.2⟩
    | str w => exact h
    | arr l =>
      obtain ⟨hl, s, u, hs, hu, e⟩ := h
      exact ⟨hl, s, u, hs, Items.mono (fun x u h => ih x u h) hu, e⟩
    | obj l =>
      obtain ⟨hl, s, u, hs, hu, e⟩ := h
      exact ⟨hl, s, u, hs, Items.mono (fun x u ⟨a, b, c, h1, h2, h3, h4, h5⟩ => ⟨a, b, c, h1, h2, h3, ih _ _ h4, h5⟩) hu, e⟩
theorem ws_byte {s : List Int} (h : JWs s) : ∀ c ∈ s, byteN c := fun c hc => by
  have := h c hc
  unfold byteN
  omega
theorem items_bytes {α : Type} {T : α → List Int → Prop} (hT : ∀ x u, T x u → ∀ c ∈ u, byteN c) : ∀ {l : List α} {t : List Int}, Items T l t → ∀ c ∈ t, byteN c
  | [], _, e, c, hc => by rw [e] at hc; simp at hc
  | [x], _, ⟨u, s, h1, h2, e⟩, c, hc => by
    rw [e] at hc
    rcases List.mem_append.1 hc with hc | hc
    · exact hT _ _ h1 c hc
    · exact ws_byte h2 c hc
  | x :: y :: l, _, ⟨u, s, s', v, h1, h2, h3, h4, e⟩, c, hc => by
    rw [e] at hc
    simp only [List.mem_append, List.mem_cons] at hc
    rcases hc with ((hc | hc) | rfl | hc) | hc
    · exact hT _ _ h1 c hc
    · exact ws_byte h2 c hc
    · unfold byteN; omega
    · exact ws_byte h3 c hc
    · exact items_bytes hT (l := y :: l) h4 c hc
theorem txt_bytes : ∀ (d : Nat) (v : JVal) (t : List Int), JTxt (· ∈ jlitL) NumTxt JStr d v t → ∀ c ∈ t, byteN c := by
  intro d
  induction d with
  | zero => intro v t h; exact h.elim
  | succ d ih =>
    intro v t h
    unfold JTxt at h
    cases v with
    | lit w =>
      obtain ⟨h, rfl⟩ := h
      simp only [jlitL, List.mem_cons, List.not_mem_nil, or_false] at h
      rcases h with rfl | rfl | rfl <;> intro c hc <;> simp at hc <;> unfold byteN <;> omega
    | num w =>
      obtain ⟨h, rfl⟩ := h
      intro c hc
      have h1 := num_bytes h c hc
      unfold isDg at h1
      unfold byteN
      omega
    | str w =>
      obtain ⟨h, rfl⟩ := h
      exact str_bytes h
    | arr l =>
      obtain ⟨hl, s, u, hs, hu, rfl⟩ := h
      intro c hc
      simp only [List.cons_append, List.mem_append, List.mem_cons, List.not_mem_nil, or_false] at hc
      rcases hc with rfl | (hc | hc) | rfl
      · unfold byteN; omega
      · exact ws_byte hs c hc
      · exact items_bytes (fun x u h => ih x u h) hu c hc
      · unfold byteN; omega
    | obj l =>
      obtain ⟨hl, s, u, hs, hu, rfl⟩ := h
      intro c hc
      simp only [List.cons_append, List.mem_append, List.mem_cons, List.not_mem_nil, or_false] at hc
      rcases hc with rfl | (hc | hc) | rfl
      · unfold byteN; omega
      · exact ws_byte hs c hc
      · refine items_bytes (fun x u ⟨a, b, e, h1, h2, h3, h4, h5⟩ => ?_) hu c hc
        intro c hc
        rw [h5] at hc
        simp only [List.mem_append, List.mem_cons] at hc
        rcases hc with ((hc | hc) | rfl | hc) | hc
        · exact str_bytes h1 c hc
        · exact ws_byte h2 c hc
        · unfold byteN; omega
        · exact ws_byte h3 c hc
        · exact ih _ _ h4 c hc
      · unfold byteN; omega

/-- What is said of a text. -/
structure JGood (keep : Bool) (t w1 u w2 em : List Int) (v v' : JVal) : Prop where
  eq : t = w1 ++ (u ++ w2)
  ws1 : JWs w1
  ws2 : JWs w2
  tx : JTx 5 v u
  tx' : JTx 5 v' em
  rem : Rem keep [] 0 false true (t ++ [0]) em
  rem' : Rem keep [] 0 false true (em ++ [0]) em
  same : SameT 5 (tr 5 v) (tr 5 v')
  wr : keep = true → WrT 5 (tr 5 v) (tr 5 v')
  tight : tight 0 em = true
  len : em.length ≤ t.length
  max : t.length ≤ 40000
  by1 : ∀ c ∈ t, byteN c
  by2 : ∀ c ∈ em, byteN c
  ne1 : t ≠ []
  ne2 : em ≠ []
theorem json_good (keep : Bool) {t : List Int} (h : JForm t) : ∃ w1 u w2 em v v', JGood keep t w1 u w2 em v v' := by
  obtain ⟨s, u, s', v, hs, hs', hm, rfl, hlen⟩ := h
  have h1 : JTxt (· ∈ jlitL) JNum JStr 5 v u := hm
  have htx : JTx 5 v u := txt_mono (fun u hu => (nf_spec hu).2.2.2.2.2) 5 v u h1
  have h2 := txt_out (N' := Stays keep) (f := fk keep) (fun u hu => (fk_tok keep hu).2.1) 5 v u h1
  have htx' : JTx 5 (nv (fk keep) 5 v) (otn (fk keep) 5 v) := txt_mono (fun u hu => hu.1) 5 _ _ h2
  have hr1 := rem_all (keep := keep) (f := fk keep) (fun u hu => (fk_tok keep hu).1) h1 (by omega) hs hs'
  have hr2 := rem_all (keep := keep) (f := fun u => u) (fun u hu => stays_tok hu) h2 (by omega) (w1 := []) (w2 := []) (fun c h => absurd h (by simp)) (fun c h => absurd h (by simp))
  have e2 : otn (fun u => u) 5 (nv (fk keep) 5 v) = otn (fk keep) 5 v := by unfold otn; rw [nv_id]
  rw [e2] at hr2
  obtain ⟨c1, r1, e1, _⟩ := txt_opens htx
  obtain ⟨c3, r3, e3, _⟩ := txt_opens htx'
  have hl := len_out (f := fk keep) (fun u hu => (fk_tok keep hu).2.2.2) 5 v u h1
  refine ⟨s, u, s', otn (fk keep) 5 v, v, nv (fk keep) 5 v, ?_⟩
  exact { eq := by rw [List.append_assoc], ws1 := hs, ws2 := hs', tx := htx, tx' := htx'
          rem := by rw [List.append_assoc, List.append_assoc]; exact hr1
          rem' := by simpa using hr2
          same := same_out (f := fk keep) (fun u hu => (fk_tok keep hu).2.2.1) 5 v u h1
          wr := fun hk => by
            subst hk
            have e : nv (fk true) 5 v = v := nv_id 5 v
            rw [e]
            exact wr_refl 5 v u h1
          tight := by
            have h9 := tight_val 5 _ _ htx' []
            rw [List.append_nil] at h9
            exact h9
          len := by simp only [List.length_append]; omega
          max := hlen
          by1 := fun c hc => by
            rcases List.mem_append.1 hc with hc | hc
            · rcases List.mem_append.1 hc with hc | hc
              · exact ws_byte hs c hc
              · exact txt_bytes 5 v u htx c hc
            · exact ws_byte hs' c hc
          by2 := txt_bytes 5 _ _ htx'
          ne1 := by rw [e1]; simp
          ne2 := by rw [e3]; simp }

end Go.Proofs.YthoekplablhgfaaGreatDoor
