/-
  ZZNumber, impl.Number, and laws.FnNumber over them.
-/
import Derived.Test.YthfogblmcmlkhaaNumDone
import Derived.Test.YthfogblmcmlkhaaNumLaw2
import Derived.Test.YthfogblmcmlkhaaNumText
import Derived.Test.YthfogblmcmlkhaaDecTop
namespace Go.Proofs.Ythfogblmcmlkhaa
open Go.RowKit
set_option linter.unusedVariables false

/-- What comes back lies somewhere, byte by byte, and is not longer. -/
def NumLies (R : List Int) (n B : Nat) (w : World) (e : Ending) (w' : World) : Prop :=
  R.length ≤ n ∧ ∃ (g a cap : Nat), e = .returned (.slice (some ⟨g, a, none⟩) R.length cap) ∧ (∀ j, j < R.length → w'.cell? ⟨g, a + j, none⟩ = some (.int .u8 (R.getD j 0))) ∧ Below B w w'

set_option maxRecDepth 1000000 in
set_option maxHeartbeats 3200000 in
theorem Number_one (h o cap : Nat) (w : World) :
    Calls Try.prog 20 #[.slice (some ⟨h, o, none⟩) 1 cap, .int .i64 0] w fun e w' => e = .returned (.slice (some ⟨h, o, none⟩) 1 cap) ∧ w = w' := by
  go_enter Try.func20, Try.ntmps20
  go_wp2
  go_ret
  exact ⟨rfl, rfl⟩

set_option maxHeartbeats 1600000 in
theorem ZZNumber_any (h0 c0 : Nat) (t d sg I F x : List Int) (ev : Int) (w : World) (hd : Num t d sg I F x ev) (hsrc : ∀ j, j < t.length → w.cell? ⟨h0, j, none⟩ = some (.int .u8 (t.getD j 0))) (hn : 0 < t.length) (hmax : t.length ≤ 1000000) :
    Calls Try.prog 17 #[.slice (some ⟨h0, 0, none⟩) t.length c0, .int .i64 0] w (NumLies (numOut t sg I F ev) t.length w.heap.size w) := by
  obtain ⟨i0, hi, hz0, hz1, hz2⟩ := info_parts info_u8
  have hnews : ∀ j u, (t.map (Value.int .u8))[j]? = some u → w.cell? ((⟨h0, 0, none⟩ : Addr).add j) = some u := by
    intro j u hu
    rw [List.getElem?_map] at hu
    by_cases hj : j < t.length
    · rw [List.getElem?_eq_getElem hj] at hu
      have ha : (⟨h0, 0, none⟩ : Addr).add j = ⟨h0, j, none⟩ := by unfold Addr.add; split <;> simp_all
      rw [ha, hsrc j hj, List.getD_eq_getElem?_getD, List.getElem?_eq_getElem hj]
      simpa using hu
    · rw [List.getElem?_eq_none (by omega)] at hu
      simp at hu
  have HD := Lib.hid hd
  have HNW := Lib.hid hnews
  clear hsrc hd hnews
  go_enter Try.func17, Try.ntmps17
  go_wp2_with (at_builtin; refine wpList_append_lies _ rfl _ _ _ rfl w.heap.size 5 i0 (.int .u8 0) 1 1 Try.underlying34 hi hz0 hz1 hz2 rfl (by omega) (.slice none 0 0) 0 [] rfl (own_nil _ _ _ _) ⟨h0, 0, none⟩ t.length c0 (t.map (Value.int .u8)) rfl (by simp) HNW.out (one_cells t) hn (by unfold maxLen; omega) (by omega) (Nat.le_refl _) w.heap.size rfl ?_; intro g cap w1 hown hgrow hat hlt)
  have hg : g = w.heap.size := hat.elim (fun h => by simp [Value.ownBlock] at h) id
  simp only [Nat.zero_add, List.nil_append] at hown
  obtain ⟨hcap, hcm, _, tail, hb, _⟩ := Buf.own hown rfl
  have hbw : Below w.heap.size w w1 := (Below.refl _ _).grown hgrow (Nat.le_refl _) (by rintro k hk; simp [Value.ownBlock] at hk)
  have HBW := Lib.hid hbw
  have HG := Lib.hid hg
  have HB := Lib.hid hb
  clear hown hgrow hat hbw hg hcm hb
  by_cases h2 : 2 ≤ t.length
  · have hR : numOut t sg I F ev = numR t (decide (sg = [45])) (dropZ I) (trimF F) ev := by unfold numOut; rw [if_neg (by omega)]
    have hat := HD.out.dec.num HD.out.ex (by rw [← HD.out.eq]; exact h2) HD.out.len
    rw [← HD.out.eq] at hat
    have HAT := Lib.hid hat
    have HR := Lib.hid hR
    clear hat hR
    go_wp2_with fail
    refine (Number_at g cap t.length _ _ _ _ _ _ _ _ t tail w1 HB.out HAT.out hcap hmax).mono ?_
    rintro e w2 ⟨a, ys, rfl, hb2, hg2, hyl, hab, hp⟩
    have hgs : w.heap.size ≤ g := by have := HG.out; omega
    have hbw2 : Below w.heap.size w w2 := HBW.out.trans (hg2.mono hgs)
    have HB2 := Lib.hid hb2
    have HBW2 := Lib.hid hbw2
    have HQ2 := Lib.hid hp
    have HY := Lib.hid hyl
    clear hp hb2 hg2 hbw2 hyl hgs
    go_wp2_with fail
    go_ret
    unfold NumLies
    rw [HR.out]
    refine ⟨by omega, g, a, cap - a, rfl, fun j hj => ?_, HBW2.out⟩
    rw [HB2.out.cell (a + j) (by rw [HY.out]; omega), HQ2.out j hj]
  · have h1 : t.length = 1 := by omega
    have H1 := Lib.hid h1
    have hR : numOut t sg I F ev = t := by unfold numOut; rw [if_pos (by omega)]
    have HR := Lib.hid hR
    rw [h1]
    clear h1 hR
    go_wp2_with fail
    refine (Number_one g 0 cap w1).mono ?_
    rintro e w2 ⟨rfl, rfl⟩
    go_wp2_with fail
    go_ret
    unfold NumLies
    rw [HR.out]
    refine ⟨by rw [H1.out]; omega, g, 0, cap, by rw [H1.out]; rfl, fun j hj => ?_, HBW.out⟩
    rw [Nat.zero_add]
    exact HB.out.cell j hj

set_option maxHeartbeats 1600000 in
theorem implNumber_any (t d sg I F x : List Int) (ev : Int) (w : World) (hd : Num t d sg I F x ev) (hn : 0 < t.length) (hmax : t.length ≤ 1000000) :
    Calls Try.prog 10 #[.string (strOfNums t), .int .i64 0] w fun e w' => e = .returned (.string (strOfNums (numOut t sg I F ev))) ∧ (numOut t sg I F ev).length ≤ t.length ∧ Below w.heap.size w w' := by
  obtain ⟨R, hRR⟩ : ∃ R, numOut t sg I F ev = R := ⟨_, rfl⟩
  rw [hRR]
  have HRR := Lib.hid hRR
  clear hRR
  obtain ⟨s, hs⟩ : ∃ s, strOfNums t = s := ⟨_, rfl⟩
  rw [hs]
  have hl : s.size = t.length := by rw [← hs, strOfNums_size]
  have hby : bytesL s = t := by rw [← hs]; exact bytesL_str hd.byte
  have hcv := Lib.run_convert_string_bytes (P := Try.prog) w 9 34 5 s Try.underlying9 Try.underlying34 Try.underlying5
  have hbw : Below w.heap.size w (Lib.bytesWorld w 5 s) := ⟨rfl, rfl, rfl, by rw [Lib.bytesWorld_size]; omega, fun k hk => Lib.bytesWorld_at_old w _ s k hk⟩
  have hsrc : ∀ j, j < t.length → (Lib.bytesWorld w 5 s).cell? ⟨w.heap.size, j, none⟩ = some (.int .u8 (t.getD j 0)) := by
    intro j hj
    rw [Lib.bytesWorld_cell w _ s j (by omega), ← hby]
    unfold bytesL
    rw [List.getD_eq_getElem?_getD, List.getD_eq_getElem?_getD, List.getElem?_map, List.getElem?_eq_getElem (by simp; omega)]
    rfl
  have hsz : (Lib.bytesWorld w 5 s).heap.size = w.heap.size + 1 := Lib.bytesWorld_size _ _ _
  have HL := Lib.hid hl
  have HBW := Lib.hid hbw
  have HS := Lib.hid hsrc
  have HSZ := Lib.hid hsz
  have HD := Lib.hid hd
  clear hl hbw hsrc hsz hd hby hs
  go_enter Try.func10, Try.ntmps10
  go_wp2_with fail
  rw [HL.out]
  refine (ZZNumber_any w.heap.size _ t d sg I F x ev _ HD.out HS.out hn hmax).mono ?_
  rintro e w2 ⟨hle, g, a, cap, rfl, hc, hb⟩
  clear hcv
  rw [HRR.out] at hle hc ⊢
  have hcv2 := run_convert_bytes_arg (P := Try.prog) (w := w2) 34 5 Try.underlying34 Try.underlying5 g a R.length cap R rfl (fun i hi => hc i hi) 9 Try.underlying9
  have HB := Lib.hid (HBW.out.trans (hb.mono (by rw [HSZ.out]; omega)))
  have HLE := Lib.hid hle
  clear hc hb hle
  go_wp2_with fail
  go_ret
  exact ⟨rfl, HLE.out, HB.out⟩

set_option maxHeartbeats 1600000 in
theorem FnNumber_any (A1 : Option Addr) (n1 c1 : Nat) (xs : List Int) (w : World) (r1 : RInts w w.heap.size A1 n1 xs) (k1 : n1 ≤ c1) (m1 : c1 ≤ 9223372036854775807) :
    Calls Try.prog 4 #[.slice A1 n1 c1] w fun e w' => e = .returned (.bool true) ∧ Below w.heap.size w w' := by
  have b1 := r1.2.1
  by_cases h1 : 2147483647 < n1
  · have h1' : decide (2147483647 < (n1 : Int)) = true := by simp; omega
    clear r1
    go_enter Try.func4, Try.ntmps4
    go_wp2
    go_ret
    exact ⟨rfl, Below.refl _ _⟩
  have q1 := r1.take (min n1 300) (by omega)
  have R1 := Lib.hid r1
  have Q1 := Lib.hid q1
  clear r1 q1
  go_enter Try.func4, Try.ntmps4
  go_wp2_with fail
  refine (few_any A1 n1 c1 xs w R1.out k1 m1).mono ?_
  rintro e w1 ⟨rfl, rfl⟩
  go_wp2_with fail
  refine (NumberText_at A1 _ c1 w.heap.size _ w rfl Q1.out).mono ?_
  rintro e w1 ⟨t, ht, rfl, hb⟩
  obtain ⟨d, sg, I, F, x, ev, hd, hlen, hev, hn, hl⟩ := ht.num
  obtain ⟨d', sg', I', F', x', ev', hd', l4, l2, l3⟩ := num_again hd hlen hev hn
  obtain ⟨R, hR⟩ : ∃ R, numOut t sg I F ev = R := ⟨_, rfl⟩
  rw [hR] at hd' l4 l2 l3
  have hst : (strOfNums t).size = t.length := strOfNums_size _
  have hsr : (strOfNums R).size = R.length := strOfNums_size _
  have hv1 : valL (bytesL (strOfNums t)) = valL t := by rw [bytesL_str hd.byte]
  have hv2 : valL (bytesL (strOfNums R)) = valL t := by rw [bytesL_str hd'.byte, l2]
  have L4 := Lib.hid l4
  have HV1 := Lib.hid hv1
  have HV2 := Lib.hid hv2
  have HST := Lib.hid hst
  have HSR := Lib.hid hsr
  have HD := Lib.hid hd
  have HD' := Lib.hid hd'
  have HR := Lib.hid hR
  have hb0 := hb.size
  have HB := Lib.hid hb
  clear l2 l4 hb ht hd hd' hv1 hv2 hst hsr hR hlen hev
  go_wp2_with fail
  refine (implNumber_any t d sg I F x ev w1 HD.out hn (by omega)).mono ?_
  rintro e w2 ⟨rfl, hle0, hb2⟩
  rw [HR.out] at hle0 ⊢
  have hle : (strOfNums R).size ≤ (strOfNums t).size := by rw [HSR.out, HST.out]; exact hle0
  have hb02 := hb2.size
  have HB2 := Lib.hid (HB.out.trans (hb2.mono hb0))
  clear hb2
  go_wp2_with fail
  refine (Value_any (strOfNums R) w2 (by rw [HSR.out]; omega)).mono ?_
  rintro e w3 ⟨rfl, hb3⟩
  rw [HV2.out]
  have hb03 := hb3.size
  have HB3 := Lib.hid (HB2.out.trans (hb3.mono (by omega)))
  clear hb3
  go_wp2_with fail
  refine (Value_any (strOfNums t) w3 (by rw [HST.out]; omega)).mono ?_
  rintro e w4 ⟨rfl, hb4⟩
  rw [HV1.out]
  have hb04 := hb4.size
  have HB4 := Lib.hid (HB3.out.trans (hb4.mono (by omega)))
  clear hb4
  go_wp2_with fail
  refine (implNumber_any R d' sg' I' F' x' ev' w4 HD'.out l3 (by omega)).mono ?_
  rintro e w5 ⟨rfl, _, hb5⟩
  rw [L4.out]
  have HB5 := Lib.hid (HB4.out.trans (hb5.mono (by omega)))
  clear hb5
  go_wp2_with fail
  go_ret
  exact ⟨rfl, HB5.out⟩

end Go.Proofs.Ythfogblmcmlkhaa
