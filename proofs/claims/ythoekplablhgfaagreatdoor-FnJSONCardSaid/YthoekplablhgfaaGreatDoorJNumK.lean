/-
  What minify.Number does to a number's token in the parser's buffer.
-/
import Derived.Test.YthoekplablhgfaaGreatDoorODone
import Derived.Test.YthoekplablhgfaaGreatDoorJTok
namespace Go.Proofs.YthoekplablhgfaaGreatDoor
open Go.RowKit
set_option linter.unusedVariables false

set_option maxRecDepth 1000000 in
set_option maxHeartbeats 3200000 in
theorem Number_one (h o cap : Nat) (w : World) :
    Calls Tryz.prog 40 #[.slice (some ⟨h, o, none⟩) 1 cap, .int .i64 0] w fun e w' => e = .returned (.slice (some ⟨h, o, none⟩) 1 cap) ∧ w = w' := by
  go_enter Tryz.func40, Tryz.ntmps40
  go_wp2
  go_ret
  exact ⟨rfl, rfl⟩

/-- What is left where Number has been. -/
def NumkPost (h q N cx : Nat) (u xs : List Int) (tail : List Value) (w : World) (e : Ending) (w' : World) : Prop :=
  ∃ (a : Nat) (R xs' : List Int), e = .returned (.slice (some ⟨h, q + a, none⟩) R.length (cx - a)) ∧ u = fix0 R ∧ 1 ≤ R.length ∧ a + R.length ≤ N ∧ LiesL xs' (q + a) R ∧ Buf w' h xs' tail ∧ xs'.length = xs.length ∧ (∀ k, q + N ≤ k → xs'.getD k 0 = xs.getD k 0) ∧ Onl h w w'

theorem lies_split {xs t : List Int} {q : Nat} (h : LiesL xs q t) : xs = xs.take q ++ t ++ xs.drop (q + t.length) := by
  have h1 := h.1
  apply List.ext_getElem?
  intro k
  by_cases hk : k < q
  · rw [List.append_assoc, List.getElem?_append_left (by rw [List.length_take]; omega), List.getElem?_take, if_pos hk]
  · by_cases hk2 : k < q + t.length
    · rw [List.append_assoc, List.getElem?_append_right (by rw [List.length_take]; omega), List.length_take, show min q xs.length = q from by omega, List.getElem?_append_left (by omega)]
      have h2 := h.2 (k - q) (by omega)
      rw [show q + (k - q) = k from by omega, List.getD_eq_getElem?_getD, List.getD_eq_getElem?_getD, List.getElem?_eq_getElem (by omega), List.getElem?_eq_getElem (by omega)] at h2
      rw [List.getElem?_eq_getElem (by omega), List.getElem?_eq_getElem (by omega)]
      exact congrArg some h2
    · rw [List.getElem?_append_right (by rw [List.length_append, List.length_take]; omega), List.length_append, List.length_take, show min q xs.length = q from by omega, List.getElem?_drop]
      congr 1
      omega
theorem Number_tok (h q N cx : Nat) (t u xs : List Int) (tail : List Value) (w : World) (hb : Buf w h xs tail) (hl : LiesL xs q t) (hN : t.length = N) (hcx : N ≤ cx) (hmax : N ≤ 60) (hu : NumW t u) :
    Calls Tryz.prog 40 #[.slice (some ⟨h, q, none⟩) N cx, .int .i64 0] w (NumkPost h q N cx u xs tail w) := by
  obtain ⟨d, sg, I, F, x, ev, hJ, rfl⟩ := hu
  have hpos := hJ.pos
  have h1 := hl.1
  by_cases h2 : 2 ≤ N
  · have hat := hJ.num.dec.num hJ.num.ex (by rw [← hJ.num.eq]; omega) hJ.num.len
    rw [← hJ.num.eq, hN] at hat
    have hR : numOut t sg I F ev = numR t (decide (sg = [45])) (dropZ I) (trimF F) ev := by unfold numOut; rw [if_neg (by omega)]
    have hs := lies_split hl
    have hbo : BufO w h q (xs.take q) t ((xs.drop (q + N)).map (Value.int .u8) ++ tail) := by
      refine ⟨by rw [List.length_take]; omega, ?_⟩
      unfold Buf at hb ⊢
      rw [hb]
      conv => lhs; rw [hs]
      rw [hN, List.map_append, List.append_assoc]
    refine (Number_at h q cx N _ _ _ _ _ _ _ _ (xs.take q) t _ w hbo hat hcx (by omega)).mono ?_
    rintro e w' ⟨a, ys, rfl, hb2, hon, hyl, hal, hp⟩
    rw [← hR] at hal hp ⊢
    obtain ⟨R, hRR⟩ : ∃ R, numOut t sg I F ev = R := ⟨_, rfl⟩
    rw [hRR] at hal hp ⊢
    have hxl : (xs.take q).length = q := by rw [List.length_take]; omega
    refine ⟨a, R, xs.take q ++ ys ++ xs.drop (q + N), rfl, rfl, ?_, hal, ⟨?_, fun j hj => ?_⟩, ?_, ?_, fun k hk => ?_, hon⟩
    · rw [← hRR]
      unfold numOut
      rw [if_neg (by omega)]
      unfold numR
      split
      · simp
      · split
        · omega
        · rw [List.length_append]
          have hz : ¬ (dropZ I = [] ∧ trimF F = []) := by assumption
          obtain ⟨hS, _⟩ := sig_of hJ.num.dec.int hJ.num.dec.fr hz
          have := body_pos (D := sigD (dropZ I) (trimF F)) (F := trimF F) (e := nrm (dropZ I) (trimF F) + ev) hS.ne
          omega
    · rw [List.length_append, List.length_append, hxl, hyl, List.length_drop]; omega
    · rw [List.append_assoc, List.getD_eq_getElem?_getD, List.getElem?_append_right (by omega), hxl, List.getElem?_append_left (by omega), show q + a + j - q = a + j from by omega, ← List.getD_eq_getElem?_getD]
      exact hp j hj
    · have h9 := hb2.2
      unfold Buf at h9 ⊢
      rw [h9, List.map_append, List.map_append, List.map_append, List.append_assoc, List.append_assoc, List.append_assoc]
    · rw [List.length_append, List.length_append, hxl, hyl, List.length_drop]; omega
    · rw [List.getD_eq_getElem?_getD, List.getElem?_append_right (by rw [List.length_append, hxl, hyl]; omega), List.length_append, hxl, hyl, List.getElem?_drop, List.getD_eq_getElem?_getD]
      congr 2
      omega
  · have hN1 : N = 1 := by omega
    have hR : numOut t sg I F ev = t := by unfold numOut; rw [if_pos (by omega)]
    rw [hR]
    subst hN1
    refine (Number_one h q cx w).mono ?_
    rintro e w' ⟨rfl, rfl⟩
    refine ⟨0, t, xs, by rw [hN]; rfl, rfl, by omega, by omega, hl, hb, rfl, fun k _ => rfl, Onl.refl _ _⟩

end Go.Proofs.YthoekplablhgfaaGreatDoor
