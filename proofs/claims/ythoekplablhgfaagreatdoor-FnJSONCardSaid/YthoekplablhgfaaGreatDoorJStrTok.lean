/-
  The contract of the parser's consumeStringToken.
-/
import Derived.Test.YthoekplablhgfaaGreatDoorJLit
import Derived.Test.YthoekplablhgfaaGreatDoorMRead
namespace Go.Proofs.YthoekplablhgfaaGreatDoor
open Go.RowKit
set_option linter.unusedVariables false

/-- Whether the byte behind these stands escaped: the parity of the backslashes at the end. -/
def escd (e : Bool) : List Int → Bool
  | [] => e
  | c :: r => escd (if c = 92 then !e else false) r
theorem escd_append (a b : List Int) : ∀ e, escd e (a ++ b) = escd (escd e a) b := by
  induction a with
  | nil => intro e; rfl
  | cons c r ih => intro e; exact ih _
/-- Quotes within stand escaped, from state e on. -/
def qok (e : Bool) : List Int → Prop
  | [] => True
  | c :: r => (c = 34 → e = true) ∧ qok (if c = 92 then !e else false) r
theorem qok_append (a b : List Int) : ∀ e, qok e (a ++ b) ↔ qok e a ∧ qok (escd e a) b := by
  induction a with
  | nil => intro e; simp [qok, escd]
  | cons c r ih => intro e; simp only [List.cons_append, qok, escd, ih]; exact and_assoc.symm
theorem unit_qok {u : JU} (h : u.ok) : qok false u.txt ∧ escd false u.txt = false := by
  cases u with
  | raw c =>
    obtain ⟨h1, h2, h3, h4⟩ := h
    simp [JU.txt, qok, escd, h3, h4]
  | esc e m =>
    simp only [JU.ok, escL, List.mem_cons, Prod.mk.injEq, List.not_mem_nil, or_false] at h
    rcases h with ⟨rfl, rfl⟩ | ⟨rfl, rfl⟩ | ⟨rfl, rfl⟩ | ⟨rfl, rfl⟩ | ⟨rfl, rfl⟩ | ⟨rfl, rfl⟩ | ⟨rfl, rfl⟩ | ⟨rfl, rfl⟩ <;> simp [JU.txt, qok, escd]
  | hex4 a b c d =>
    obtain ⟨h1, h2, h3, h4, _⟩ := h
    unfold hexC at h1 h2 h3 h4
    have n1 : a ≠ 92 ∧ a ≠ 34 := by omega
    have n2 : b ≠ 92 ∧ b ≠ 34 := by omega
    have n3 : c ≠ 92 ∧ c ≠ 34 := by omega
    have n4 : d ≠ 92 ∧ d ≠ 34 := by omega
    simp [JU.txt, qok, escd, n1.1, n1.2, n2.1, n2.2, n3.1, n3.2, n4.1, n4.2]
  | pair => simp [JU.txt, qok, escd]
theorem units_qok : ∀ (us : List JU), (∀ u ∈ us, u.ok) → qok false (flat us) ∧ escd false (flat us) = false
  | [], _ => ⟨trivial, rfl⟩
  | u :: us, h => by
    obtain ⟨h1, h2⟩ := units_qok us fun x hx => h x (by simp [hx])
    obtain ⟨h3, h4⟩ := unit_qok (h u (by simp))
    have e : flat (u :: us) = u.txt ++ flat us := by unfold flat; simp
    rw [e, qok_append, escd_append, h4]
    exact ⟨⟨h3, h1⟩, h2⟩
/-- No byte within is 0. -/
theorem unit_pos {u : JU} (h : u.ok) : ∀ c ∈ u.txt, c ≠ 0 := by
  intro c hc
  cases u with
  | raw x => simp [JU.txt] at hc; subst hc; have := h.1; omega
  | esc e m =>
    simp only [JU.ok, escL, List.mem_cons, Prod.mk.injEq, List.not_mem_nil, or_false] at h
    simp only [JU.txt, List.mem_cons, List.not_mem_nil, or_false] at hc
    rcases hc with rfl | rfl <;> omega
  | hex4 a b x d =>
    obtain ⟨h1, h2, h3, h4, _⟩ := h
    unfold hexC at h1 h2 h3 h4
    simp only [JU.txt, List.mem_cons, List.not_mem_nil, or_false] at hc
    rcases hc with rfl | rfl | rfl | rfl | rfl | rfl <;> omega
  | pair => simp [JU.txt] at hc; omega
theorem flat_pos {us : List JU} (h : ∀ u ∈ us, u.ok) : ∀ c ∈ flat us, c ≠ 0 := by
  intro c hc
  unfold flat at hc
  obtain ⟨u, hu, hcu⟩ := List.mem_flatMap.1 hc
  exact unit_pos (h u hu) c hcu
/-- The k bytes ahead. -/
theorem escd_take {l : List Int} {k : Nat} (hk : k < l.length) : escd false (l.take (k + 1)) = (if l.getD k 0 = 92 then !(escd false (l.take k)) else false) := by
  rw [List.take_succ_eq_append_getElem hk, escd_append, List.getD_eq_getElem?_getD, List.getElem?_eq_getElem hk]
  rfl
theorem qok_at {l : List Int} (h : qok false l) {k : Nat} (hk : k < l.length) (hc : l.getD k 0 = 34) : escd false (l.take k) = true := by
  have h1 := h
  rw [← List.take_append_drop k l, qok_append] at h1
  have h2 := h1.2
  rw [List.drop_eq_getElem_cons hk] at h2
  rw [List.getD_eq_getElem?_getD, List.getElem?_eq_getElem hk] at hc
  exact h2.1 hc

/-- The bytes of a string, its quotes with it. -/
theorem escd_quote (l : List Int) (k : Nat) : escd false ((34 :: l).take (k + 1)) = escd false (l.take k) := by
  rw [List.take_succ_cons]
  simp [escd]

set_option maxRecDepth 100000 in
set_option maxHeartbeats 6400000 in
theorem str_tok (p z h n cap pos : Nat) (rf sv : Value) (nc : Bool) (xs r : List Int) (us : List JU) (tail : List Value) (w : World) (x : Lex w p z h n cap pos pos rf sv nc xs tail) (hu : ∀ u ∈ us, u.ok) (hl : LiesL xs pos (34 :: (flat us ++ 34 :: r))) (hcap : n ≤ 1000000) (hnc : n ≤ cap) (hr : r ≠ []) :
    Calls Tryz.prog 56 #[.pointer (some ⟨p, 0, none⟩)] w (Taken true (flat us).length.succ.succ p z h n cap pos pos rf sv nc xs tail w) := by
  obtain ⟨hq1, hq2⟩ := units_qok us hu
  have hps := flat_pos hu
  obtain ⟨l, hld⟩ : ∃ l, flat us = l := ⟨_, rfl⟩
  rw [hld] at hl hq1 hq2 hps ⊢
  have hrl : 1 ≤ r.length := by
    rcases Nat.eq_zero_or_pos r.length with e | e
    · exact absurd (List.eq_nil_of_length_eq_zero e) hr
    · exact e
  have hll := hl.1
  simp only [List.length_cons, List.length_append] at hll
  have hN := x.hs
  have hN2 := x.hn
  -- the bytes
  have hby : ∀ j, j ≤ l.length → xs.getD (pos + 1 + j) 0 = (if j = l.length then 34 else l.getD j 0) := fun j hj => by
    have h1 := hl.tail.2 j (by simp; omega)
    rw [h1]
    by_cases e : j = l.length
    · subst e
      rw [if_pos rfl, List.getD_eq_getElem?_getD, List.getElem?_append_right (Nat.le_refl _), Nat.sub_self]
      rfl
    · rw [if_neg e, List.getD_eq_getElem?_getD, List.getElem?_append_left (by omega), ← List.getD_eq_getElem?_getD]
  have hb0 : xs.getD pos 0 = 34 := hl.head.2
  have X := Lib.hid x
  have HBY := Lib.hid hby
  have HB0 := Lib.hid hb0
  have HQ1 := Lib.hid hq1
  have HQ2 := Lib.hid hq2
  have HPS := Lib.hid hps
  have k0 := x.hp.c0
  clear x hu hl hby hb0 hq1 hq2 hps hr hld
  go_enter Tryz.func56, Tryz.ntmps56
  go_wp2_with fail
  refine (X.out.move 1 (pos + 1) (by omega) (by omega) (by omega)).mono ?_
  rintro e w1 ⟨rfl, hx1, hg1⟩
  have X1 := Lib.hid hx1
  have HG1 := Lib.hid hg1
  clear hx1 hg1 k0
  go_wp2_with fail
  go_loopw [3, 4, 5] (fun _ _ _ wr => ∃ j : Nat, j ≤ l.length ∧ RowKit.Hid (Lex wr p z h n cap (pos + 1 + j) pos rf sv nc xs tail) ∧ RowKit.Hid (w.grownBy wr (some z))) (fun _ _ _ wr => pos + 1 + l.length - inAt wr z)
  case atStart => exact ⟨0, by omega, X1, HG1⟩
  case round =>
    clear X1 HG1
    obtain ⟨j, hj, HX, HG⟩ := hrel
    have k0 := HX.out.hp.c0
    obtain ⟨c, hc⟩ : ∃ c, xs.getD (pos + 1 + j) 0 = c := ⟨_, rfl⟩
    have hcv := HBY.out j hj
    rw [hc] at hcv
    have HC := Lib.hid hc
    have HCV := Lib.hid hcv
    clear hcv
    go_wp2_with fail
    refine (HX.out.peek 0 c ⟨by omega, hc⟩ (by omega)).mono ?_
    rintro e w2 ⟨rfl, rfl⟩
    clear hc
    by_cases h34 : c = 34
    · subst h34
      go_wp2_with fail
      refine (Pos_at z h n cap (pos + 1 + j) pos (j + 1) rf wr HX.out.hi (by omega) (by omega)).mono ?_
      rintro e w3 ⟨rfl, hg3⟩
      have X3 := Lib.hid (HX.out.to (HX.out.hi.keep (hg3.block z HX.out.hi.lt (by simp))) (grownBy_none' hg3))
      have HG3 := Lib.hid (grownBy_trans HG.out (grownBy_none' (g := z) hg3))
      clear hg3 k0
      obtain ⟨E, hE⟩ : ∃ E, escd false (l.take j) = E := ⟨_, rfl⟩
      have HE := Lib.hid hE
      clear hE
      go_wp2_with fail
      have j0 : ((j : Nat) : Int) + 1 - 1 = ((j : Nat) : Int) := by omega
      go_loopw [4, 5] (fun v4 v5 wr => ∃ (i : Nat) (e : Bool), i ≤ j ∧ v4 = .bool e ∧ v5 = .int .i64 (i : Nat) ∧ RowKit.Hid (E = ((escd false (l.take i)) ^^ e)) ∧ RowKit.Hid (Lex wr p z h n cap (pos + 1 + j) pos rf sv nc xs tail) ∧ RowKit.Hid (w.grownBy wr (some z))) (fun _ v5 _ => (intOf v5).toNat)
      case atStart => exact ⟨j, false, Nat.le_refl _, rfl, by go_num, Lib.hid (by rw [HE.out]; simp), X3, HG3⟩
      case round =>
        clear X3 HG3
        obtain ⟨i, e, hi, rfl, rfl, HEI, X4, HG4⟩ := hrel
        have k0 := X4.out.hp.c0
        have hi0 : (0 : Int) ≤ ((i : Nat) : Int) := by omega
        obtain ⟨b, hb⟩ : ∃ b, xs.getD (pos + i) 0 = b := ⟨_, rfl⟩
        have hbv : b = (if i = 0 then 34 else l.getD (i - 1) 0) := by
          rw [← hb]
          by_cases h0 : i = 0
          · subst h0
            rw [if_pos rfl, Nat.add_zero]
            exact HB0.out
          · rw [if_neg h0]
            have h1 := HBY.out (i - 1) (by omega)
            rw [show pos + 1 + (i - 1) = pos + i from by omega, if_neg (by omega)] at h1
            exact h1
        have hcell := X4.out.hb.cell (pos + i) (by omega)
        rw [hb] at hcell
        have HBV := Lib.hid hbv
        have hilt : i < j + 1 := by omega
        clear hb hbv
        go_wp2_with fail
        refine (Lexeme_at z h n cap (pos + 1 + j) pos (j + 1) rf wr X4.out.hi (by omega) (by omega) (by omega) (by omega)).mono ?_
        rintro e9 w5 ⟨rfl, hg5⟩
        have X5 := Lib.hid (X4.out.to (X4.out.hi.keep (hg5.block z X4.out.hi.lt (by simp))) (grownBy_none' hg5))
        have HG5 := Lib.hid (grownBy_trans HG4.out (grownBy_none' (g := z) hg5))
        have hcell5 : w5.cell? ⟨h, pos + i, none⟩ = some (.int .u8 b) := by
          rw [← hcell]
          simp [World.cell?, show w5.heap[h]? = wr.heap[h]? from hg5.block h X4.out.hb.lt (by simp)]
        clear hg5 hcell X4 HG4
        by_cases h92 : b = 92
        · have hb92 := HBV.out
          rw [h92] at hb92
          have hi1 : i ≠ 0 := by rintro rfl; rw [if_pos rfl] at hb92; omega
          obtain ⟨i', rfl⟩ : ∃ i', i = i' + 1 := ⟨i - 1, by omega⟩
          rw [if_neg hi1, Nat.add_sub_cancel] at hb92
          have hE2 : E = ((escd false (l.take i')) ^^ !e) := by
            rw [HEI.out, escd_take (by omega), if_pos hb92.symm]
            cases escd false (l.take i') <;> cases e <;> rfl
          have HE2 := Lib.hid hE2
          subst h92
          clear hE2 hb92
          go_wp2_with fail
          go_roundw
          case rel => exact ⟨i', !e, by omega, rfl, by go_num, HE2, X5, HG5⟩
          case measure => simp [intOf]
        · have f92 : (b == 92) = false := by simpa using h92
          have hEe : E = e := by
            rw [HEI.out]
            have h0 : escd false (l.take i) = false := by
              rcases Nat.eq_zero_or_pos i with h | h
              · rw [h]; rfl
              · obtain ⟨i', rfl⟩ : ∃ i', i = i' + 1 := ⟨i - 1, by omega⟩
                have hbv := HBV.out
                rw [if_neg (by omega), Nat.add_sub_cancel] at hbv
                rw [escd_take (by omega), if_neg (by rw [← hbv]; exact h92)]
            rw [h0]
            cases e <;> rfl
          have k5 := X5.out.hp.c0
          clear h92 HBV
          by_cases hjl : j = l.length
          · subst hjl
            have hEf : E = false := by rw [← HE.out, List.take_length]; exact HQ2.out
            rw [hEf] at hEe
            subst hEe
            go_wp2_with fail
            refine (X5.out.move 1 (pos + 1 + l.length + 1) (by omega) (by omega) (by omega)).mono ?_
            rintro e8 w8 ⟨rfl, hx2, hg2⟩
            have HX2 := Lib.hid hx2
            have HG2 := Lib.hid (grownBy_trans HG5.out hg2)
            clear hx2 hg2
            go_wp2_with fail
            go_ret
            exact ⟨rfl, by rw [show pos + l.length.succ.succ = pos + 1 + l.length + 1 from by omega]; exact HX2.out, HG2.out⟩
          · have hEt : E = true := by
              rw [← HE.out]
              have hc9 := HCV.out
              rw [if_neg hjl] at hc9
              exact qok_at HQ1.out (by omega) hc9.symm
            rw [hEt] at hEe
            subst hEe
            go_wp2_with fail
            refine (X5.out.move 1 (pos + 1 + (j + 1)) (by omega) (by omega) (by omega)).mono ?_
            rintro e8 w8 ⟨rfl, hx2, hg2⟩
            have HX2 := Lib.hid hx2
            have HG2 := Lib.hid (grownBy_trans HG5.out hg2)
            clear hx2 hg2
            go_wp2_with fail
            go_roundw
            case rel => exact ⟨j + 1, by omega, HX2, HG2⟩
            case measure => rw [HX2.out.hi.inAt, HX.out.hi.inAt]; omega
    · have f34 : (c == 34) = false := by simpa using h34
      have hjl : j ≠ l.length := by
        intro e
        have hc9 := HCV.out
        rw [if_pos e] at hc9
        exact h34 hc9
      have f0 : (c == 0) = false := by
        have hc9 := HCV.out
        rw [if_neg hjl] at hc9
        rw [hc9]
        simpa using HPS.out _ (getD_in (show j < l.length by omega))
      go_wp2_with fail
      refine (HX.out.move 1 (pos + 1 + (j + 1)) (by omega) (by omega) (by omega)).mono ?_
      rintro e8 w8 ⟨rfl, hx2, hg2⟩
      have HX2 := Lib.hid hx2
      have HG2 := Lib.hid (grownBy_trans HG.out hg2)
      clear hx2 hg2
      go_wp2_with fail
      go_roundw
      case rel => exact ⟨j + 1, by omega, HX2, HG2⟩
      case measure => rw [HX2.out.hi.inAt, HX.out.hi.inAt]; omega

end Go.Proofs.YthoekplablhgfaaGreatDoor
