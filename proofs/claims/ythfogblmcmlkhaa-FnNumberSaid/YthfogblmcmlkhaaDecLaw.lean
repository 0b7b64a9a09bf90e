/-
  The plain law of FnDecimal: what Decimal makes of a decimal has the same value, is not longer, and stays.
-/
import Derived.Test.YthfogblmcmlkhaaDecTop
namespace Go.Proofs.Ythfogblmcmlkhaa
open Go.RowKit
set_option linter.unusedVariables false

/-- The text of a value: sign, digits, power. -/
def valOf (s D : List Int) (p : Int) : List Int :=
  if (tailZ (dropZ D).reverse p).1.reverse = [] then [48] else s ++ (tailZ (dropZ D).reverse p).1.reverse ++ [101] ++ wholeL (tailZ (dropZ D).reverse p).2

theorem mant_int : ∀ (I r : List Int) (d : List Int) (p : Int), (∀ c ∈ I, dig c) → mant (I ++ r) (d, p, false) = mant r (d ++ I, p, false)
  | [], r, d, p, _ => by simp
  | c :: I, r, d, p, h => by
    have hc := h c (by simp)
    unfold dig at hc
    have h1 : ¬ (c = 101 ∨ c = 69) := by omega
    have h2 : ¬ c = 46 := by omega
    rw [List.cons_append, mant, if_neg h1, if_neg h2, if_neg (by simp), mant_int I r (d ++ [c]) p (fun x hx => h x (by simp [hx]))]
    simp
theorem mant_frac : ∀ (F r : List Int) (d : List Int) (p : Int), (∀ c ∈ F, dig c) → mant (F ++ r) (d, p, true) = mant r (d ++ F, p - F.length, true)
  | [], r, d, p, _ => by simp
  | c :: F, r, d, p, h => by
    have hc := h c (by simp)
    unfold dig at hc
    have h1 : ¬ (c = 101 ∨ c = 69) := by omega
    have h2 : ¬ c = 46 := by omega
    rw [List.cons_append, mant, if_neg h1, if_neg h2, if_pos rfl, mant_frac F r (d ++ [c]) (p - 1) (fun x hx => h x (by simp [hx]))]
    have e : p - 1 - (F.length : Int) = p - ((c :: F).length : Int) := by simp; omega
    rw [e]
    simp
theorem mant_dec (I F r : List Int) (hI : ∀ c ∈ I, dig c) (hF : ∀ c ∈ F, dig c) (hr : r = [] ∨ ∃ c x, r = c :: x ∧ (c = 101 ∨ c = 69)) :
    mant (I ++ (if F = [] then [] else 46 :: F) ++ r) ([], 0, false) = ((I ++ F, -(F.length : Int)), r) := by
  have stop : ∀ (d : List Int) (p : Int) (b : Bool), mant r (d, p, b) = ((d, p), r) := by
    intro d p b
    rcases hr with rfl | ⟨c, x, rfl, hc⟩
    · rfl
    · rw [mant, if_pos hc]
  rw [List.append_assoc, mant_int I _ [] 0 hI]
  by_cases h : F = []
  · subst h
    rw [if_pos rfl]
    simp [stop]
  · rw [if_neg h, List.cons_append, mant, if_neg (by omega), if_pos rfl, mant_frac F r _ _ hF, stop]
    simp

theorem signOf_dec {t sg I F : List Int} (h : Dec t sg I F) (r : List Int) : signOf (t ++ r) = (minus sg, I ++ (if F = [] then [] else 46 :: F) ++ r) := by
  obtain ⟨hsg, hI, hF, hs, he⟩ := h
  subst he
  simp only [signsL, List.mem_cons, List.not_mem_nil, or_false] at hsg
  rcases hsg with rfl | rfl | rfl
  · have hne : ∃ c x, (I ++ (if F = [] then [] else 46 :: F) ++ r) = c :: x ∧ c ≠ 45 ∧ c ≠ 43 := by
      cases hI0 : I with
      | nil =>
        have hF0 : F ≠ [] := fun e => hs e hI0
        rw [if_neg hF0]
        exact ⟨46, _, rfl, by decide, by decide⟩
      | cons d x =>
        have := hI d (by rw [hI0]; simp)
        unfold dig at this
        exact ⟨d, _, rfl, by omega, by omega⟩
    obtain ⟨c, x, h1, h2, h3⟩ := hne
    rw [List.nil_append, h1]
    simp [signOf, h2, h3, minus]
  · simp [signOf, minus]
  · simp [signOf, minus]

theorem valL_dec {t sg I F : List Int} (h : Dec t sg I F) : valL t = valOf (minus sg) (I ++ F) (-(F.length : Int)) := by
  have h1 := signOf_dec h []
  rw [List.append_nil, List.append_nil] at h1
  have h2 := mant_dec I F [] h.int h.fr (.inl rfl)
  rw [List.append_nil] at h2
  have hp : parts t = (minus sg, (tailZ (dropZ (I ++ F)).reverse (-(F.length : Int))).1.reverse, (tailZ (dropZ (I ++ F)).reverse (-(F.length : Int))).2) := by
    unfold parts
    simp only
    rw [h1]
    simp only
    rw [h2]
    rfl
  unfold valL valOf
  rw [hp]

theorem dropZ_rep (z : Nat) (l : List Int) : dropZ (List.replicate z 48 ++ l) = dropZ l := by
  induction z with
  | zero => rfl
  | succ z ih => rw [List.replicate_succ, List.cons_append, dropZ, if_pos rfl, ih]
theorem dropZ_append {D : List Int} (h : dropZ D ≠ []) (r : List Int) : dropZ (D ++ r) = dropZ D ++ r := by
  induction D with
  | nil => exact absurd rfl h
  | cons c D ih =>
    by_cases hc : c = 48
    · subst hc
      rw [dropZ, if_pos rfl] at h
      rw [List.cons_append, dropZ, if_pos rfl, ih h, dropZ, if_pos rfl]
    · rw [List.cons_append, dropZ, if_neg hc, dropZ, if_neg hc, List.cons_append]
theorem tailZ_rep (y : Nat) : ∀ (l : List Int) (p : Int), tailZ (List.replicate y 48 ++ l) p = tailZ l (p + y) := by
  induction y with
  | zero => intro l p; simp
  | succ y ih =>
    intro l p
    rw [List.replicate_succ, List.cons_append, tailZ, if_pos rfl, ih]
    congr 1
    omega
theorem dropZ_nil {l : List Int} (h : dropZ l = []) : ∃ z, l = List.replicate z 48 := by
  obtain ⟨z, hz, _⟩ := dropZ_split l
  exact ⟨z, by rw [h, List.append_nil] at hz; exact hz⟩
theorem dropZ_id {l : List Int} (h : ∀ c r, l = c :: r → c ≠ 48) : dropZ l = l := by
  cases l with
  | nil => rfl
  | cons c r => rw [dropZ, if_neg (h c r rfl)]
theorem dropZ_twice (l : List Int) : dropZ (dropZ l) = dropZ l := by
  obtain ⟨z, _, h⟩ := dropZ_split l
  exact dropZ_id h
theorem trimF_twice (F : List Int) : trimF (trimF F) = trimF F := by
  unfold trimF
  rw [List.reverse_reverse, dropZ_twice]
theorem minus_twice (sg : List Int) : minus (minus sg) = minus sg := by
  unfold minus
  split <;> simp

/-- Noughts ahead and behind do not count. -/
theorem valOf_trim (s I F : List Int) (r : Int) (h : ¬ (dropZ I = [] ∧ trimF F = [])) :
    valOf s (I ++ F) (r - (F.length : Int)) = valOf s (dropZ I ++ trimF F) (r - ((trimF F).length : Int)) := by
  obtain ⟨z, hz1, hz2⟩ := dropZ_split I
  obtain ⟨y, hy1, hy2⟩ := trimF_split F
  have hne : dropZ (dropZ I ++ trimF F) ≠ [] := by
    intro e
    obtain ⟨k, hk⟩ := dropZ_nil e
    have hI : dropZ I = [] := by
      cases hd : dropZ I with
      | nil => rfl
      | cons c r =>
        exfalso
        have := hz2 c r hd
        rw [hd] at hk
        have h48 : c ∈ List.replicate k (48 : Int) := by rw [← hk]; simp
        exact this (List.eq_of_mem_replicate h48)
    have hF : trimF F = [] := by
      refine Classical.byContradiction fun hF => ?_
      have hl : (trimF F).length ≠ 0 := fun e => hF (List.eq_nil_of_length_eq_zero e)
      have h1 := hy2 ((trimF F).length - 1) hF (by omega)
      have h2 := getD_mem' (l := trimF F) (k := (trimF F).length - 1) (by omega)
      have h48 : (trimF F).getD ((trimF F).length - 1) 0 ∈ List.replicate k (48 : Int) := by rw [← hk]; exact List.mem_append_right _ h2
      exact h1 (List.eq_of_mem_replicate h48)
    exact h ⟨hI, hF⟩
  have e1 : dropZ (I ++ F) = dropZ (dropZ I ++ trimF F) ++ List.replicate y 48 := by
    rw [hz1, List.append_assoc, dropZ_rep, hy1, ← List.append_assoc]
    rw [show trimF (trimF F ++ List.replicate y 48) = trimF F from by rw [← hy1]]
    rw [show dropZ (List.replicate z 48 ++ dropZ I) = dropZ I from by rw [← hz1]]
    exact dropZ_append hne _
  have e2 : tailZ (dropZ (I ++ F)).reverse (r - (F.length : Int)) = tailZ (dropZ (dropZ I ++ trimF F)).reverse (r - ((trimF F).length : Int)) := by
    rw [e1, List.reverse_append, List.reverse_replicate, tailZ_rep]
    have hl : (F.length : Int) = (trimF F).length + y := by
      have := congrArg List.length hy1
      simp at this
      omega
    congr 1
    omega
  unfold valOf
  rw [e2]
theorem valOf_zero (s I F : List Int) (p : Int) (h : dropZ I = [] ∧ trimF F = []) : valOf s (I ++ F) p = [48] := by
  obtain ⟨z, hz⟩ := dropZ_nil h.1
  obtain ⟨y, hy, _⟩ := trimF_split F
  rw [h.2, List.nil_append] at hy
  have e : dropZ (I ++ F) = [] := by
    rw [hz, hy, dropZ_rep]
    have := dropZ_rep y []
    rw [List.append_nil] at this
    exact this
  unfold valOf
  rw [e]
  rfl

theorem trimF_mem {F : List Int} {x : Int} (h : x ∈ trimF F) : x ∈ F := by
  obtain ⟨y, hy, _⟩ := trimF_split F
  rw [hy]
  exact List.mem_append_left _ h
theorem dropZ_mem2 {F : List Int} {x : Int} (h : x ∈ dropZ F) : x ∈ F := dropZ_mem F x h
theorem trimF_len (F : List Int) : (trimF F).length ≤ F.length := by
  obtain ⟨y, hy, _⟩ := trimF_split F
  have := congrArg List.length hy
  simp at this
  omega
theorem minus_sign (sg : List Int) : minus sg ∈ signsL := by
  unfold minus signsL
  split <;> simp

/-- What Decimal leaves is a decimal, and Decimal leaves it. -/
theorem dec_again {t sg I F : List Int} (h : Dec t sg I F) : ∃ sg' I' F', Dec (decR sg I F) sg' I' F' ∧ decR sg' I' F' = decR sg I F := by
  by_cases h0 : dropZ I = [] ∧ trimF F = []
  · refine ⟨[], [48], [], ⟨by simp [signsL], ?_, fun _ h => absurd h (by simp), by simp, by unfold decR; rw [if_pos h0]; rfl⟩, ?_⟩
    · intro d hd
      simp at hd
      rw [hd]
      unfold dig
      omega
    · unfold decR
      rw [if_pos h0]
      rfl
  · refine ⟨minus sg, dropZ I, trimF F, ⟨minus_sign sg, fun d hd => h.int d (dropZ_mem2 hd), fun d hd => h.fr d (trimF_mem hd), fun e e' => h0 ⟨e', e⟩, ?_⟩, ?_⟩
    · unfold decR
      rw [if_neg h0]
    · unfold decR
      rw [dropZ_twice, trimF_twice, minus_twice, if_neg h0]

theorem dec_law : DecLaw := by
  intro t sg I F _ h
  have hl : t.length = sg.length + I.length + (if F = [] then 0 else F.length + 1) := by
    rw [h.eq]
    split <;> simp
    omega
  obtain ⟨sg', I', F', h1, h2⟩ := dec_again h
  refine ⟨?_, ?_, ?_, sg', I', F', h1, h2⟩
  · unfold decR
    have a1 := dropZ_len I
    have a2 := trimF_len F
    split
    · have : 0 < t.length := by
        rw [hl]
        by_cases hF : F = []
        · have hI : I.length ≠ 0 := fun e => h.some_ hF (List.eq_nil_of_length_eq_zero e)
          omega
        · rw [if_neg hF]; omega
      simp
      omega
    · have a3 : (minus sg).length ≤ sg.length := by
        unfold minus
        split
        · rename_i e; rw [e]; exact Nat.le_refl _
        · simp
      rw [hl]
      by_cases hT : trimF F = []
      · rw [if_pos hT]
        simp
        split <;> omega
      · have hF : F ≠ [] := fun e => by
          have hFl : F.length = 0 := by rw [e]; rfl
          exact hT (List.eq_nil_of_length_eq_zero (by omega))
        rw [if_neg hT, if_neg hF]
        simp
        omega
  · rw [valL_dec h, valL_dec h1]
    by_cases h0 : dropZ I = [] ∧ trimF F = []
    · rw [valOf_zero _ _ _ _ h0, ← valL_dec h1]
      unfold decR
      rw [if_pos h0]
      decide
    · have e : ∀ (x : List Int), -(x.length : Int) = 0 - (x.length : Int) := fun x => by omega
      have hd : Dec (decR sg I F) (minus sg) (dropZ I) (trimF F) := ⟨minus_sign sg, fun d hd => h.int d (dropZ_mem2 hd), fun d hd => h.fr d (trimF_mem hd), fun e e' => h0 ⟨e', e⟩, by unfold decR; rw [if_neg h0]⟩
      rw [← valL_dec h1, valL_dec hd, minus_twice, e, e, ← valOf_trim _ _ _ 0 h0]
  · unfold decR
    split
    · simp
    · rename_i h0
      rcases Nat.eq_zero_or_pos (dropZ I).length with h1 | h1
      · have h2 : trimF F ≠ [] := fun e => h0 ⟨List.eq_nil_of_length_eq_zero h1, e⟩
        rw [if_neg h2]
        simp
        omega
      · simp
        omega

end Go.Proofs.Ythfogblmcmlkhaa
