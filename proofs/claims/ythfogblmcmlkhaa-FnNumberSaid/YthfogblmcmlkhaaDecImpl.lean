/-
  impl.Decimal: which text comes of a decimal.
-/
import Derived.Test.YthfogblmcmlkhaaDecWalk
import Derived.Test.YthfogblmcmlkhaaDecText
import Derived.Test.YthfogblmcmlkhaaValue
import Derived.Deep.AppendLies
import Derived.Lib.ConvBytes
namespace Go.Proofs.Ythfogblmcmlkhaa
open Go.RowKit
set_option linter.unusedVariables false

/-- A decimal told by its parts. -/
structure Dec (t sg I F : List Int) : Prop where
  sgn : sg ∈ signsL
  int : ∀ d ∈ I, dig d
  fr : ∀ d ∈ F, dig d
  some_ : F = [] → I ≠ []
  eq : t = sg ++ I ++ (if F = [] then [] else 46 :: F)
theorem DecForm.dec {t : List Int} (h : DecForm t) : ∃ sg I F, Dec t sg I F := by
  obtain ⟨sg, hsg, h⟩ := h
  rcases h with ⟨n, I, h1, h2, hI, rfl⟩ | ⟨n, m, I, F, h1, h2, h3, hI, hF, rfl⟩
  · exact ⟨sg, I, [], hsg, hI.2, fun _ h => absurd h (by simp), fun _ e => by have := hI.1; rw [e] at this; simp at this; omega, by simp⟩
  · have hFn : F ≠ [] := fun e => by have := hF.1; rw [e] at this; simp at this; omega
    exact ⟨sg, I, F, hsg, hI.2, hF.2, fun e => absurd e hFn, by rw [if_neg hFn]; simp⟩

def trimF (F : List Int) : List Int := (dropZ F.reverse).reverse
def minus (sg : List Int) : List Int := if sg = [45] then [45] else []
/-- What Decimal makes of it. -/
def decR (sg I F : List Int) : List Int := if dropZ I = [] ∧ trimF F = [] then [48] else minus sg ++ dropZ I ++ (if trimF F = [] then [] else 46 :: trimF F)

theorem dropZ_split (l : List Int) : ∃ z, l = List.replicate z 48 ++ dropZ l ∧ (∀ c r, dropZ l = c :: r → c ≠ 48) := by
  induction l with
  | nil => exact ⟨0, rfl, fun _ _ h => by cases h⟩
  | cons c r ih =>
    obtain ⟨z, h1, h2⟩ := ih
    by_cases hc : c = 48
    · subst hc
      refine ⟨z + 1, ?_, ?_⟩
      · rw [dropZ, if_pos rfl]
        conv => lhs; rw [h1]
        rfl
      · rw [dropZ, if_pos rfl]; exact h2
    · refine ⟨0, ?_, ?_⟩
      · rw [dropZ, if_neg hc]; rfl
      · rw [dropZ, if_neg hc]
        intro c' r' h
        injection h with h _
        rw [← h]; exact hc
theorem trimF_split (F : List Int) : ∃ z, F = trimF F ++ List.replicate z 48 ∧ (∀ k, trimF F ≠ [] → k + 1 = (trimF F).length → (trimF F).getD k 0 ≠ 48) := by
  obtain ⟨z, h1, h2⟩ := dropZ_split F.reverse
  refine ⟨z, ?_, ?_⟩
  · have := congrArg List.reverse h1
    rw [List.reverse_reverse, List.reverse_append, List.reverse_replicate] at this
    exact this
  · intro k hne hk
    unfold trimF at hne hk ⊢
    cases hd : dropZ F.reverse with
    | nil => rw [hd] at hne; exact absurd rfl hne
    | cons c r =>
      rw [hd] at hk
      have hc := h2 c r hd
      rw [List.reverse_cons] at hk ⊢
      simp at hk
      rw [List.getD_eq_getElem?_getD, List.getElem?_append_right (by simp; omega)]
      simp [hk]
      exact hc

theorem getD_append_left' {l r : List Int} {k : Nat} (h : k < l.length) : (l ++ r).getD k 0 = l.getD k 0 := by
  rw [List.getD_eq_getElem?_getD, List.getElem?_append_left h, List.getD_eq_getElem?_getD]
theorem getD_append_right' {l r : List Int} {k : Nat} (h : l.length ≤ k) : (l ++ r).getD k 0 = r.getD (k - l.length) 0 := by
  rw [List.getD_eq_getElem?_getD, List.getElem?_append_right h, List.getD_eq_getElem?_getD]
theorem getD_mem' {l : List Int} {k : Nat} (h : k < l.length) : l.getD k 0 ∈ l := by
  rw [List.getD_eq_getElem?_getD, List.getElem?_eq_getElem h]
  exact List.getElem_mem _
theorem getD_rep {z k : Nat} (h : k < z) : (List.replicate z (48 : Int)).getD k 0 = 48 := by
  rw [List.getD_eq_getElem?_getD, List.getElem?_replicate, if_pos h]; rfl
theorem getD_over {l : List Int} {k : Nat} (h : l.length ≤ k) : l.getD k 0 = 0 := by
  rw [List.getD_eq_getElem?_getD, List.getElem?_eq_none h]; rfl

theorem Dec.at_ {t sg I F : List Int} (h : Dec t sg I F) (h2 : 2 ≤ t.length) : DecAt t t.length sg.length (sg.length + I.length) (I.length - (dropZ I).length) (trimF F).length (decide (sg = [45])) := by
  obtain ⟨hsg, hI, hF, hs, he⟩ := h
  obtain ⟨z, hz1, hz2⟩ := dropZ_split I
  obtain ⟨y, hy1, hy2⟩ := trimF_split F
  have hzl : I.length = z + (dropZ I).length := by
    have := congrArg List.length hz1
    simpa using this
  have hyl : F.length = (trimF F).length + y := by
    have := congrArg List.length hy1
    simpa using this
  have hz : I.length - (dropZ I).length = z := by omega
  rw [hz]
  have hsl : sg.length ≤ 1 := signs_len hsg
  have hlen : t.length = sg.length + I.length + (if F = [] then 0 else F.length + 1) := by
    rw [he]
    split <;> simp
    omega
  have gI : ∀ k, sg.length ≤ k → k < sg.length + I.length → t.getD k 0 = I.getD (k - sg.length) 0 := by
    intro k h0 h1
    rw [he, getD_append_left' (by simp; omega), getD_append_right' h0]
  have gS : ∀ k, k < sg.length → t.getD k 0 = sg.getD k 0 := by
    intro k h0
    rw [he, getD_append_left' (by simp; omega), getD_append_left' h0]
  have gD : F ≠ [] → t.getD (sg.length + I.length) 0 = 46 := by
    intro hF0
    rw [he, if_neg hF0, getD_append_right' (by simp)]
    simp
  have gF : ∀ k, sg.length + I.length < k → k < t.length → t.getD k 0 = F.getD (k - (sg.length + I.length + 1)) 0 := by
    intro k h0 h1
    have hF0 : F ≠ [] := fun e => by rw [if_pos e] at hlen; omega
    rw [he, if_neg hF0, getD_append_right' (by simp; omega)]
    have : k - (sg ++ I).length = (k - (sg.length + I.length + 1)) + 1 := by simp; omega
    rw [this]
    rfl
  have hb : ∀ d, dig d → 0 ≤ d ∧ d ≤ 255 := fun d h => by unfold dig at h; omega
  refine ⟨rfl, h2, hsl, ⟨?_, ?_⟩, by omega, by omega, ?_, ?_, ?_, ?_, by omega, ?_, ?_, ?_, ?_, ?_⟩
  · intro h1
    have hg := gS 0 (by omega)
    simp only [signsL, List.mem_cons, List.not_mem_nil, or_false] at hsg
    rcases hsg with rfl | rfl | rfl
    · simp at h1
    · exact .inl ⟨hg, rfl⟩
    · exact .inr ⟨hg, rfl⟩
  · intro h1
    have e : sg = [] := List.eq_nil_of_length_eq_zero h1
    subst e
    have h0 : t.getD 0 0 = 46 ∨ dig (t.getD 0 0) := by
      cases hI0 : I with
      | nil =>
        left
        have hF0 : F ≠ [] := fun e => hs e hI0
        have := gD hF0
        rw [hI0] at this
        exact this
      | cons d r =>
        right
        rw [gI 0 (by simp) (by rw [hI0]; simp)]
        rw [hI0]
        exact hI d (by rw [hI0]; simp)
    refine ⟨rfl, ?_, ?_⟩ <;> (rcases h0 with h0 | h0 <;> unfold dig at h0 <;> omega)
  · intro h1
    have hF0 : F ≠ [] := fun e => by rw [if_pos e] at hlen; omega
    refine ⟨gD hF0, ?_⟩
    have : F.length ≠ 0 := fun e => hF0 (List.eq_nil_of_length_eq_zero e)
    rw [if_neg hF0] at hlen
    omega
  · intro h1
    have hF0 : F = [] := by
      refine Classical.byContradiction fun e => ?_
      rw [if_neg e] at hlen
      omega
    have hI0 := hs hF0
    have : I.length ≠ 0 := fun e => hI0 (List.eq_nil_of_length_eq_zero e)
    omega
  · intro k h0 h1
    rw [gI k h0 h1]
    have := hI _ (getD_mem' (l := I) (k := k - sg.length) (by omega))
    unfold dig at this
    omega
  · intro k
    by_cases h0 : k < sg.length
    · rw [gS k h0]
      simp only [signsL, List.mem_cons, List.not_mem_nil, or_false] at hsg
      rcases hsg with rfl | rfl | rfl
      · simp at h0
      · have : k = 0 := by simp at h0; exact h0
        subst this; decide
      · have : k = 0 := by simp at h0; exact h0
        subst this; decide
    · by_cases h1 : k < sg.length + I.length
      · rw [gI k (by omega) h1]
        exact hb _ (hI _ (getD_mem' (by omega)))
      · by_cases h2 : k < t.length
        · have hF0 : F ≠ [] := fun e => by rw [if_pos e] at hlen; omega
          by_cases h3 : k = sg.length + I.length
          · rw [h3, gD hF0]; decide
          · rw [gF k (by omega) h2]
            rw [if_neg hF0] at hlen
            exact hb _ (hF _ (getD_mem' (by omega)))
        · rw [getD_over (by omega)]; decide
  · intro k h0 h1
    rw [gI k h0 (by omega), hz1, getD_append_left' (by simp; omega), getD_rep (by omega)]
  · intro h1
    rw [gI _ (by omega) h1, hz1, getD_append_right' (by simp)]
    have : 0 < (dropZ I).length := by omega
    cases hd : dropZ I with
    | nil => rw [hd] at this; simp at this
    | cons c r =>
      have := hz2 c r hd
      simp only [List.length_replicate, Nat.add_sub_cancel_left, Nat.sub_self]
      exact this
  · by_cases hF0 : F = []
    · right
      rw [if_pos hF0] at hlen
      have hFl : F.length = 0 := by rw [hF0]; rfl
      omega
    · left
      rw [if_neg hF0] at hlen
      omega
  · intro k h0 h1
    have hF0 : F ≠ [] := fun e => by rw [if_pos e] at hlen; omega
    rw [if_neg hF0] at hlen
    rw [gF k (by omega) h1, hy1, getD_append_right' (by omega), getD_rep (by omega)]
  · intro h0
    have hF0 : F ≠ [] := fun e => by
      have hFl : F.length = 0 := by rw [e]; rfl
      omega
    rw [if_neg hF0] at hlen
    rw [gF (sg.length + I.length + (trimF F).length) (by omega) (by omega), show sg.length + I.length + (trimF F).length - (sg.length + I.length + 1) = (trimF F).length - 1 from by omega]
    have := hy2 ((trimF F).length - 1) (fun e => by rw [e] at h0; simp at h0) (by omega)
    rw [← getD_append_left' (r := List.replicate y 48) (show (trimF F).length - 1 < (trimF F).length by omega), ← hy1] at this
    exact this

/-- What the call hands back, byte by byte. -/
theorem decR_get {t sg I F ys : List Int} {a b : Nat} (h : Dec t sg I F) (h2 : 2 ≤ t.length) (hab : a ≤ b)
    (hp : if sg.length + (I.length - (dropZ I).length) = sg.length + I.length ∧ (trimF F).length = 0 then b = a + 1 ∧ ys.getD a 0 = 48
      else b = (if (trimF F).length = 0 then sg.length + I.length else sg.length + I.length + 1 + (trimF F).length) ∧ (if decide (sg = [45]) = true then a + 1 = sg.length + (I.length - (dropZ I).length) ∧ ys.getD a 0 = 45 else a = sg.length + (I.length - (dropZ I).length)) ∧
        ∀ k, sg.length + (I.length - (dropZ I).length) ≤ k → k < t.length → ys.getD k 0 = t.getD k 0) :
    b - a = (decR sg I F).length ∧ ∀ i, i < b - a → ys.getD (a + i) 0 = (decR sg I F).getD i 0 := by
  obtain ⟨hsg, hI, hF, hs, he⟩ := h
  obtain ⟨z, hz1, hz2⟩ := dropZ_split I
  obtain ⟨y, hy1, hy2⟩ := trimF_split F
  have hzl : I.length = z + (dropZ I).length := by
    have := congrArg List.length hz1
    simpa using this
  have hyl : F.length = (trimF F).length + y := by
    have := congrArg List.length hy1
    simpa using this
  have hlen : t.length = sg.length + I.length + (if F = [] then 0 else F.length + 1) := by
    rw [he]
    split <;> simp
    omega
  have hz : I.length - (dropZ I).length = z := by omega
  rw [hz] at hp
  have nz : ∀ l : List Int, l.length = 0 ↔ l = [] := fun l => ⟨List.eq_nil_of_length_eq_zero, fun e => by rw [e]; rfl⟩
  by_cases h0 : dropZ I = [] ∧ trimF F = []
  · have e1 : (dropZ I).length = 0 := (nz _).2 h0.1
    have e2 : (trimF F).length = 0 := (nz _).2 h0.2
    rw [if_pos ⟨by omega, e2⟩] at hp
    unfold decR
    rw [if_pos h0]
    refine ⟨by simp; omega, fun i hi => ?_⟩
    obtain rfl : i = 0 := by omega
    exact hp.2
  · rw [if_neg (fun hh => h0 ⟨(nz _).1 (by omega), (nz _).1 hh.2⟩)] at hp
    obtain ⟨hb, ha, hk⟩ := hp
    unfold decR
    rw [if_neg h0]
    -- behind the sign: what the text has there
    have body : ∀ i, sg.length + z + i < b → t.getD (sg.length + z + i) 0 = (dropZ I ++ (if trimF F = [] then [] else 46 :: trimF F)).getD i 0 := by
      intro i hi
      by_cases h1 : i < (dropZ I).length
      · rw [he, getD_append_left' (by simp; omega), getD_append_right' (by omega), getD_append_left' h1]
        conv => lhs; rw [hz1]
        rw [getD_append_right' (by simp; omega)]
        congr 1
        simp
        omega
      · have hm : trimF F ≠ [] := fun e => by
          rw [if_pos ((nz _).2 e)] at hb
          omega
        have hF0 : F ≠ [] := fun e => by
          have hFl : F.length = 0 := (nz _).2 e
          have : (trimF F).length ≠ 0 := fun e => hm ((nz _).1 e)
          omega
        rw [if_neg (fun e => hm ((nz _).1 e))] at hb
        rw [he, if_neg hF0, if_neg hm, getD_append_right' (by simp; omega), getD_append_right' (by omega)]
        obtain ⟨j, hj⟩ : ∃ j, i = (dropZ I).length + j := ⟨i - (dropZ I).length, by omega⟩
        have e1 : sg.length + z + i - (sg ++ I).length = j := by simp; omega
        have e2 : i - (dropZ I).length = j := by omega
        rw [e1, e2]
        cases j with
        | zero => rfl
        | succ j =>
          show F.getD j 0 = (trimF F).getD j 0
          conv => lhs; rw [hy1]
          rw [getD_append_left' (by omega)]
    have hbl : b = sg.length + z + (dropZ I ++ (if trimF F = [] then [] else 46 :: trimF F)).length := by
      by_cases hm : trimF F = []
      · rw [if_pos ((nz _).2 hm)] at hb
        rw [if_pos hm]
        simp
        omega
      · rw [if_neg (fun e => hm ((nz _).1 e))] at hb
        rw [if_neg hm]
        simp
        omega
    have hbt : b ≤ t.length := by
      rw [hlen]
      by_cases hm : trimF F = []
      · rw [if_pos ((nz _).2 hm)] at hb
        omega
      · rw [if_neg (fun e => hm ((nz _).1 e))] at hb
        have : (trimF F).length ≠ 0 := fun e => hm ((nz _).1 e)
        have hF0 : F ≠ [] := fun e => by
          have hFl : F.length = 0 := (nz _).2 e
          omega
        rw [if_neg hF0]
        omega
    rw [List.append_assoc]
    obtain ⟨R, hR⟩ : ∃ R, dropZ I ++ (if trimF F = [] then [] else 46 :: trimF F) = R := ⟨_, rfl⟩
    rw [hR] at body hbl ⊢
    by_cases hneg : sg = [45]
    · rw [if_pos (decide_eq_true hneg)] at ha
      have hm : minus sg = [45] := if_pos hneg
      rw [hm]
      refine ⟨by simp; omega, fun i hi => ?_⟩
      cases i with
      | zero => exact ha.2
      | succ i =>
        show ys.getD (a + (i + 1)) 0 = R.getD i 0
        rw [hk _ (by omega) (by omega), show a + (i + 1) = sg.length + z + i from by omega]
        exact body i (by omega)
    · rw [if_neg (by simpa using hneg)] at ha
      have hm : minus sg = [] := if_neg hneg
      rw [hm]
      refine ⟨by simp; omega, fun i hi => ?_⟩
      show ys.getD (a + i) 0 = R.getD i 0
      rw [hk _ (by omega) (by omega), ha]
      exact body i (by omega)

end Go.Proofs.Ythfogblmcmlkhaa
