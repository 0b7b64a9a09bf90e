/-
  ZZDecimal, impl.Decimal, and laws.FnDecimal over them.
-/
import Derived.Test.YthfogblmcmlkhaaDecImpl
import Derived.Test.YthfogblmcmlkhaaValueWalk
import Derived.Test.YthfogblmcmlkhaaFew
namespace Go.Proofs.Ythfogblmcmlkhaa
open Go.RowKit
set_option linter.unusedVariables false

theorem info_u8 : (Try.prog.info? 5).map (fun i => (i.zero, i.size, i.bytes)) = some (some (.int .u8 0), 1, 1) := by kernel_rfl

/-- What comes back lies somewhere, byte by byte. -/
def LiesPost (R : List Int) (B : Nat) (w : World) (e : Ending) (w' : World) : Prop :=
  ∃ (g a cap : Nat), e = .returned (.slice (some ⟨g, a, none⟩) R.length cap) ∧ (∀ j, j < R.length → w'.cell? ⟨g, a + j, none⟩ = some (.int .u8 (R.getD j 0))) ∧ Below B w w'

theorem Dec.byte {t sg I F : List Int} (h : Dec t sg I F) : ∀ x ∈ t, byteN x := by
  obtain ⟨hsg, hI, hF, hs, he⟩ := h
  have hb : ∀ d, dig d → byteN d := fun d h => by unfold dig at h; unfold byteN; omega
  intro x hx
  rw [he] at hx
  rcases List.mem_append.1 hx with hx | hx
  · rcases List.mem_append.1 hx with hx | hx
    · simp only [signsL, List.mem_cons, List.not_mem_nil, or_false] at hsg
      rcases hsg with rfl | rfl | rfl
      · simp at hx
      · simp at hx; rw [hx]; unfold byteN; omega
      · simp at hx; rw [hx]; unfold byteN; omega
    · exact hb x (hI x hx)
  · split at hx
    · simp at hx
    · rcases List.mem_cons.1 hx with rfl | hx
      · unfold byteN; omega
      · exact hb x (hF x hx)

set_option maxRecDepth 100000 in
set_option maxHeartbeats 800000 in
theorem Decimal_one (h o cap : Nat) (w : World) :
    Calls Try.prog 19 #[.slice (some ⟨h, o, none⟩) 1 cap, .int .i64 0] w fun e w' => e = .returned (.slice (some ⟨h, o, none⟩) 1 cap) ∧ w = w' := by
  go_enter Try.func19, Try.ntmps19
  go_wp2
  go_ret
  exact ⟨rfl, rfl⟩

theorem Dec.one {t sg I F : List Int} (h : Dec t sg I F) (h1 : t.length = 1) : decR sg I F = t := by
  obtain ⟨hsg, hI, hF, hs, he⟩ := h
  have hF0 : F = [] := by
    refine Classical.byContradiction fun e => ?_
    have : F.length ≠ 0 := fun e' => e (List.eq_nil_of_length_eq_zero e')
    rw [he, if_neg e] at h1
    simp at h1
    omega
  have hI0 := hs hF0
  rw [if_pos hF0, List.append_nil] at he
  have hl : I.length ≠ 0 := fun e' => hI0 (List.eq_nil_of_length_eq_zero e')
  have hsg0 : sg = [] := by
    refine List.eq_nil_of_length_eq_zero ?_
    rw [he] at h1
    simp at h1
    omega
  subst hsg0 hF0
  rw [List.nil_append] at he
  subst he
  match t, h1 with
  | [d], _ =>
    by_cases hd : d = 48
    · subst hd; rfl
    · simp [decR, dropZ, hd, minus, trimF]

set_option maxHeartbeats 1600000 in
theorem ZZDecimal_any (h0 c0 : Nat) (t sg I F : List Int) (w : World) (hd : Dec t sg I F) (hsrc : ∀ j, j < t.length → w.cell? ⟨h0, j, none⟩ = some (.int .u8 (t.getD j 0))) (hn : 0 < t.length) (hmax : t.length ≤ 1000000) :
    Calls Try.prog 14 #[.slice (some ⟨h0, 0, none⟩) t.length c0, .int .i64 0] w (LiesPost (decR sg I F) w.heap.size w) := by
  obtain ⟨i0, hi, hz0, hz1, hz2⟩ := info_parts info_u8
  have hnews : ∀ j u, (t.map (Value.int .u8))[j]? = some u → w.cell? ((⟨h0, 0, none⟩ : Addr).add j) = some u := by
    intro j u hu
    rw [List.getElem?_map] at hu
    by_cases hj : j < t.length
    · rw [List.getElem?_eq_getElem hj] at hu
      have ha : (⟨h0, 0, none⟩ : Addr).add j = ⟨h0, j, none⟩ := by unfold Addr.add; split <;> simp_all
      rw [ha, hsrc j hj, List.getD_eq_getElem?_getD, List.getElem?_eq_getElem hj]
      simpa using hu
    · rw [List.getElem?_eq_none (by omega)] at hu
      simp at hu
  have HD := Lib.hid hd
  have HNW := Lib.hid hnews
  clear hsrc hd hnews
  go_enter Try.func14, Try.ntmps14
  go_wp2_with (at_builtin; refine wpList_append_lies _ rfl _ _ _ rfl w.heap.size 5 i0 (.int .u8 0) 1 1 Try.underlying34 hi hz0 hz1 hz2 rfl (by omega) (.slice none 0 0) 0 [] rfl (own_nil _ _ _ _) ⟨h0, 0, none⟩ t.length c0 (t.map (Value.int .u8)) rfl (by simp) HNW.out (one_cells t) hn (by unfold maxLen; omega) (by omega) (Nat.le_refl _) w.heap.size rfl ?_; intro g cap w1 hown hgrow hat hlt)
  have hg : g = w.heap.size := hat.elim (fun h => by simp [Value.ownBlock] at h) id
  simp only [Nat.zero_add, List.nil_append] at hown
  obtain ⟨hcap, hcm, _, tail, hb, _⟩ := Buf.own hown rfl
  have hbw : Below w.heap.size w w1 := (Below.refl _ _).grown hgrow (Nat.le_refl _) (by rintro k hk; simp [Value.ownBlock] at hk)
  have HBW := Lib.hid hbw
  have HG := Lib.hid hg
  have HB := Lib.hid hb
  clear hown hgrow hat hbw hg hcm hb
  by_cases h2 : 2 ≤ t.length
  · go_wp2_with fail
    refine (Decimal_at g cap t.length _ _ _ _ _ t tail w1 HB.out (HD.out.at_ h2) hcap hmax).mono ?_
    rintro e w2 ⟨a, b, ys, rfl, hb2, hg2, hyl, hab, hbn, hp⟩
    obtain ⟨q1, q2⟩ := decR_get HD.out h2 hab hp
    have hbw2 : Below w.heap.size w w2 := HBW.out.grown hg2 HBW.out.size (by rintro k hk; injection hk with hk; have := HG.out; omega)
    have HB2 := Lib.hid hb2
    have HBW2 := Lib.hid hbw2
    have HQ := Lib.hid q1
    have HQ2 := Lib.hid q2
    have HY := Lib.hid hyl
    clear hp hb2 hg2 hbw2 q1 q2 hyl
    go_wp2_with fail
    go_ret
    refine ⟨g, a, cap - a, by rw [← HQ.out]; rfl, fun j hj => ?_, HBW2.out⟩
    rw [← HQ.out] at hj
    rw [HB2.out.cell (a + j) (by rw [HY.out]; omega), HQ2.out j hj]
  · have h1 : t.length = 1 := by omega
    have H1 := Lib.hid h1
    have hR := HD.out.one h1
    have HR := Lib.hid hR
    rw [h1]
    clear h1 hR
    go_wp2_with fail
    refine (Decimal_one g 0 cap w1).mono ?_
    rintro e w2 ⟨rfl, rfl⟩
    go_wp2_with fail
    go_ret
    refine ⟨g, 0, cap, by rw [HR.out, H1.out]; rfl, fun j hj => ?_, HBW.out⟩
    rw [HR.out] at hj ⊢
    rw [Nat.zero_add]
    exact HB.out.cell j hj

def strW (w : World) (t : List Int) : World := Lib.bytesWorld w 5 (strOfNums t)

set_option maxHeartbeats 1600000 in
theorem implDecimal_any (t sg I F : List Int) (w : World) (hd : Dec t sg I F) (hn : 0 < t.length) (hmax : t.length ≤ 1000000) :
    Calls Try.prog 7 #[.string (strOfNums t), .int .i64 0] w fun e w' => e = .returned (.string (strOfNums (decR sg I F))) ∧ Below w.heap.size w w' := by
  obtain ⟨s, hs⟩ : ∃ s, strOfNums t = s := ⟨_, rfl⟩
  rw [hs]
  have hl : s.size = t.length := by rw [← hs, strOfNums_size]
  have hby : bytesL s = t := by rw [← hs]; exact bytesL_str hd.byte
  have hcv := Lib.run_convert_string_bytes (P := Try.prog) w 9 34 5 s Try.underlying9 Try.underlying34 Try.underlying5
  have hbw : Below w.heap.size w (Lib.bytesWorld w 5 s) := ⟨rfl, rfl, rfl, by rw [Lib.bytesWorld_size]; omega, fun k hk => Lib.bytesWorld_at_old w _ s k hk⟩
  have hsrc : ∀ j, j < t.length → (Lib.bytesWorld w 5 s).cell? ⟨w.heap.size, j, none⟩ = some (.int .u8 (t.getD j 0)) := by
    intro j hj
    rw [Lib.bytesWorld_cell w _ s j (by omega), ← hby]
    unfold bytesL
    rw [List.getD_eq_getElem?_getD, List.getD_eq_getElem?_getD, List.getElem?_map, List.getElem?_eq_getElem (by simp; omega)]
    rfl
  have hsz : (Lib.bytesWorld w 5 s).heap.size = w.heap.size + 1 := Lib.bytesWorld_size _ _ _
  have HL := Lib.hid hl
  have HBW := Lib.hid hbw
  have HS := Lib.hid hsrc
  have HSZ := Lib.hid hsz
  have HD := Lib.hid hd
  clear hl hbw hsrc hsz hd hby hs
  go_enter Try.func7, Try.ntmps7
  go_wp2_with fail
  rw [HL.out]
  refine (ZZDecimal_any w.heap.size _ t sg I F _ HD.out HS.out hn hmax).mono ?_
  rintro e w2 ⟨g, a, cap, rfl, hc, hb⟩
  clear hcv
  have hcv2 := run_convert_bytes_arg (P := Try.prog) (w := w2) 34 5 Try.underlying34 Try.underlying5 g a (decR sg I F).length cap (decR sg I F) rfl (fun i hi => hc i hi) 9 Try.underlying9
  have HB := Lib.hid (HBW.out.trans (hb.mono (by rw [HSZ.out]; omega)))
  clear hc hb
  go_wp2_with fail
  go_ret
  exact ⟨rfl, HB.out⟩

/-- What the plain side must show. -/
def DecLaw : Prop := ∀ t sg I F, DecForm t → Dec t sg I F → (decR sg I F).length ≤ t.length ∧ valL (decR sg I F) = valL t ∧ 0 < (decR sg I F).length ∧ ∃ sg' I' F', Dec (decR sg I F) sg' I' F' ∧ decR sg' I' F' = decR sg I F

set_option maxHeartbeats 1600000 in
theorem FnDecimal_any (A1 : Option Addr) (n1 c1 : Nat) (xs : List Int) (w : World) (r1 : RInts w w.heap.size A1 n1 xs) (k1 : n1 ≤ c1) (m1 : c1 ≤ 9223372036854775807) (hlaw : DecLaw) :
    Calls Try.prog 3 #[.slice A1 n1 c1] w fun e w' => e = .returned (.bool true) ∧ Below w.heap.size w w' := by
  have HLAW := Lib.hid hlaw
  clear hlaw
  have b1 := r1.2.1
  by_cases h1 : 2147483647 < n1
  · have h1' : decide (2147483647 < (n1 : Int)) = true := by simp; omega
    clear r1
    go_enter Try.func3, Try.ntmps3
    go_wp2
    go_ret
    exact ⟨rfl, Below.refl _ _⟩
  have q1 := r1.take (min n1 300) (by omega)
  have R1 := Lib.hid r1
  have Q1 := Lib.hid q1
  clear r1 q1
  go_enter Try.func3, Try.ntmps3
  go_wp2_with fail
  refine (few_any A1 n1 c1 xs w R1.out k1 m1).mono ?_
  rintro e w1 ⟨rfl, rfl⟩
  go_wp2_with fail
  refine (DecimalText_at A1 _ c1 w.heap.size _ w rfl Q1.out).mono ?_
  rintro e w1 ⟨t, ht, rfl, hb⟩
  obtain ⟨sg, I, F, hd⟩ := ht.dec
  have hl := ht.len
  obtain ⟨l1, l2, l3, sg', I', F', hd', l4⟩ := HLAW.out t sg I F ht hd
  have hn : 0 < t.length := by omega
  have hst : (strOfNums t).size = t.length := strOfNums_size _
  have hsr : (strOfNums (decR sg I F)).size = (decR sg I F).length := strOfNums_size _
  have hv1 : valL (bytesL (strOfNums t)) = valL t := by rw [bytesL_str hd.byte]
  have hv2 : valL (bytesL (strOfNums (decR sg I F))) = valL t := by rw [bytesL_str hd'.byte, l2]
  have L4 := Lib.hid l4
  have HV1 := Lib.hid hv1
  have HV2 := Lib.hid hv2
  have HST := Lib.hid hst
  have HSR := Lib.hid hsr
  have HD := Lib.hid hd
  have HD' := Lib.hid hd'
  have hb0 := hb.size
  have HB := Lib.hid hb
  have hle : (strOfNums (decR sg I F)).size ≤ (strOfNums t).size := by omega
  clear l2 l4 hb ht hd hd' hv1 hv2 hst hsr
  go_wp2_with fail
  refine (implDecimal_any t sg I F w1 HD.out hn (by omega)).mono ?_
  rintro e w2 ⟨rfl, hb2⟩
  have hb02 := hb2.size
  have HB2 := Lib.hid (HB.out.trans (hb2.mono hb0))
  clear hb2
  go_wp2_with fail
  refine (Value_any (strOfNums (decR sg I F)) w2 (by rw [HSR.out]; omega)).mono ?_
  rintro e w3 ⟨rfl, hb3⟩
  rw [HV2.out]
  have hb03 := hb3.size
  have HB3 := Lib.hid (HB2.out.trans (hb3.mono (by omega)))
  clear hb3
  go_wp2_with fail
  refine (Value_any (strOfNums t) w3 (by rw [HST.out]; omega)).mono ?_
  rintro e w4 ⟨rfl, hb4⟩
  rw [HV1.out]
  have hb04 := hb4.size
  have HB4 := Lib.hid (HB3.out.trans (hb4.mono (by omega)))
  clear hb4
  go_wp2_with fail
  refine (implDecimal_any (decR sg I F) sg' I' F' w4 HD'.out l3 (by omega)).mono ?_
  rintro e w5 ⟨rfl, hb5⟩
  rw [L4.out]
  have HB5 := Lib.hid (HB4.out.trans (hb5.mono (by omega)))
  clear hb5
  go_wp2_with fail
  go_ret
  exact ⟨rfl, HB5.out⟩

end Go.Proofs.Ythfogblmcmlkhaa
