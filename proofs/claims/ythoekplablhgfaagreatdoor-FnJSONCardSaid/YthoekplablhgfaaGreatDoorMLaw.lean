/-
  The plain laws of numbers, and of what is left to be read and will be written.
-/
import Derived.Test.YthoekplablhgfaaGreatDoorMTree
import Derived.Test.YthoekplablhgfaaGreatDoorMDig
import Derived.Test.YthoekplablhgfaaGreatDoorMValue
import Derived.Test.YthoekplablhgfaaGreatDoorMEnd

/- OLaw -/
namespace Go.Proofs.YthoekplablhgfaaGreatDoor
open Go.RowKit
set_option linter.unusedVariables false

def signsL : List (List Int) := [[], [45], [43]]
theorem signs_len {l : List Int} (h : l ∈ signsL) : l.length ≤ 1 := by
  simp only [signsL, List.mem_cons, List.not_mem_nil, or_false] at h
  rcases h with rfl | rfl | rfl <;> simp

/-- A decimal told by its parts. -/
structure Dec (t sg I F : List Int) : Prop where
  sgn : sg ∈ signsL
  int : ∀ d ∈ I, dig d
  fr : ∀ d ∈ F, dig d
  some_ : F = [] → I ≠ []
  eq : t = sg ++ I ++ (if F = [] then [] else 46 :: F)
def minus (sg : List Int) : List Int := if sg = [45] then [45] else []
theorem Dec.byte {t sg I F : List Int} (h : Dec t sg I F) : ∀ x ∈ t, byteN x := by
  obtain ⟨hsg, hI, hF, hs, he⟩ := h
  have hb : ∀ d, dig d → byteN d := fun d h => by unfold dig at h; unfold byteN; omega
  intro x hx
  rw [he] at hx
  rcases List.mem_append.1 hx with hx | hx
  · rcases List.mem_append.1 hx with hx | hx
    · simp only [signsL, List.mem_cons, List.not_mem_nil, or_false] at hsg
      rcases hsg with rfl | rfl | rfl
      · simp at hx
      · simp at hx; rw [hx]; unfold byteN; omega
      · simp at hx; rw [hx]; unfold byteN; omega
    · exact hb x (hI x hx)
  · split at hx
    · simp at hx
    · rcases List.mem_cons.1 hx with rfl | hx
      · unfold byteN; omega
      · exact hb x (hF x hx)

/-- The text of a value: sign, digits, power. -/
def valOf (s D : List Int) (p : Int) : List Int :=
  if (tailZ (dropZ D).reverse p).1.reverse = [] then [48] else s ++ (tailZ (dropZ D).reverse p).1.reverse ++ [101] ++ wholeL (tailZ (dropZ D).reverse p).2

theorem mant_int : ∀ (I r : List Int) (d : List Int) (p : Int), (∀ c ∈ I, dig c) → mant (I ++ r) (d, p, false) = mant r (d ++ I, p, false)
  | [], r, d, p, _ => by simp
  | c :: I, r, d, p, h => by
    have hc := h c (by simp)
    unfold dig at hc
    have h1 : ¬ (c = 101 ∨ c = 69) := by omega
    have h2 : ¬ c = 46 := by omega
    rw [List.cons_append, mant, if_neg h1, if_neg h2, if_neg (by simp), mant_int I r (d ++ [c]) p (fun x hx => h x (by simp [hx]))]
    simp
theorem mant_frac : ∀ (F r : List Int) (d : List Int) (p : Int), (∀ c ∈ F, dig c) → mant (F ++ r) (d, p, true) = mant r (d ++ F, p - F.length, true)
  | [], r, d, p, _ => by simp
  | c :: F, r, d, p, h => by
    have hc := h c (by simp)
    unfold dig at hc
    have h1 : ¬ (c = 101 ∨ c = 69) := by omega
    have h2 : ¬ c = 46 := by omega
    rw [List.cons_append, mant, if_neg h1, if_neg h2, if_pos rfl, mant_frac F r (d ++ [c]) (p - 1) (fun x hx => h x (by simp [hx]))]
    have e : p - 1 - (F.length : Int) = p - ((c :: F).length : Int) := by simp; omega
    rw [e]
    simp
theorem mant_dec (I F r : List Int) (hI : ∀ c ∈ I, dig c) (hF : ∀ c ∈ F, dig c) (hr : r = [] ∨ ∃ c x, r = c :: x ∧ (c = 101 ∨ c = 69)) :
    mant (I ++ (if F = [] then [] else 46 :: F) ++ r) ([], 0, false) = ((I ++ F, -(F.length : Int)), r) := by
  have stop : ∀ (d : List Int) (p : Int) (b : Bool), mant r (d, p, b) = ((d, p), r) := by
    intro d p b
    rcases hr with rfl | ⟨c, x, rfl, hc⟩
    · rfl
    · rw [mant, if_pos hc]
  rw [List.append_assoc, mant_int I _ [] 0 hI]
  by_cases h : F = []
  · subst h
    rw [if_pos rfl]
    simp [stop]
  · rw [if_neg h, List.cons_append, mant, if_neg (by omega), if_pos rfl, mant_frac F r _ _ hF, stop]
    simp

theorem signOf_dec {t sg I F : List Int} (h : Dec t sg I F) (r : List Int) : signOf (t ++ r) = (minus sg, I ++ (if F = [] then [] else 46 :: F) ++ r) := by
  obtain ⟨hsg, hI, hF, hs, he⟩ := h
  subst he
  simp only [signsL, List.mem_cons, List.not_mem_nil, or_false] at hsg
  rcases hsg with rfl | rfl | rfl
  · have hne : ∃ c x, (I ++ (if F = [] then [] else 46 :: F) ++ r) = c :: x ∧ c ≠ 45 ∧ c ≠ 43 := by
      cases hI0 : I with
      | nil =>
        have hF0 : F ≠ [] := fun e => hs e hI0
        rw [if_neg hF0]
        exact ⟨46, _, rfl, by decide, by decide⟩
      | cons d x =>
        have := hI d (by rw [hI0]; simp)
        unfold dig at this
        exact ⟨d, _, rfl, by omega, by omega⟩
    obtain ⟨c, x, h1, h2, h3⟩ := hne
    rw [List.nil_append, h1]
    simp [signOf, h2, h3, minus]
  · simp [signOf, minus]
  · simp [signOf, minus]

theorem valL_dec {t sg I F : List Int} (h : Dec t sg I F) : valL t = valOf (minus sg) (I ++ F) (-(F.length : Int)) := by
  have h1 := signOf_dec h []
  rw [List.append_nil, List.append_nil] at h1
  have h2 := mant_dec I F [] h.int h.fr (.inl rfl)
  rw [List.append_nil] at h2
  have hp : parts t = (minus sg, (tailZ (dropZ (I ++ F)).reverse (-(F.length : Int))).1.reverse, (tailZ (dropZ (I ++ F)).reverse (-(F.length : Int))).2) := by
    unfold parts
    simp only
    rw [h1]
    simp only
    rw [h2]
    rfl
  unfold valL valOf
  rw [hp]

theorem dropZ_rep (z : Nat) (l : List Int) : dropZ (List.replicate z 48 ++ l) = dropZ l := by
  induction z with
  | zero => rfl
  | succ z ih => rw [List.replicate_succ, List.cons_append, dropZ, if_pos rfl, ih]
theorem dropZ_append {D : List Int} (h : dropZ D ≠ []) (r : List Int) : dropZ (D ++ r) = dropZ D ++ r := by
  induction D with
  | nil => exact absurd rfl h
  | cons c D ih =>
    by_cases hc : c = 48
    · subst hc
      rw [dropZ, if_pos rfl] at h
      rw [List.cons_append, dropZ, if_pos rfl, ih h, dropZ, if_pos rfl]
    · rw [List.cons_append, dropZ, if_neg hc, dropZ, if_neg hc, List.cons_append]
theorem tailZ_rep (y : Nat) : ∀ (l : List Int) (p : Int), tailZ (List.replicate y 48 ++ l) p = tailZ l (p + y) := by
  induction y with
  | zero => intro l p; simp
  | succ y ih =>
    intro l p
    rw [List.replicate_succ, List.cons_append, tailZ, if_pos rfl, ih]
    congr 1
    omega
theorem dropZ_nil {l : List Int} (h : dropZ l = []) : ∃ z, l = List.replicate z 48 := by
  obtain ⟨z, hz, _⟩ := dropZ_split l
  exact ⟨z, by rw [h, List.append_nil] at hz; exact hz⟩
theorem dropZ_id {l : List Int} (h : ∀ c r, l = c :: r → c ≠ 48) : dropZ l = l := by
  cases l with
  | nil => rfl
  | cons c r => rw [dropZ, if_neg (h c r rfl)]
theorem dropZ_twice (l : List Int) : dropZ (dropZ l) = dropZ l := by
  obtain ⟨z, _, h⟩ := dropZ_split l
  exact dropZ_id h
theorem trimF_twice (F : List Int) : trimF (trimF F) = trimF F := by
  unfold trimF
  rw [List.reverse_reverse, dropZ_twice]
theorem minus_twice (sg : List Int) : minus (minus sg) = minus sg := by
  unfold minus
  split <;> simp

/-- Noughts ahead and behind do not count. -/
theorem valOf_trim (s I F : List Int) (r : Int) (h : ¬ (dropZ I = [] ∧ trimF F = [])) :
    valOf s (I ++ F) (r - (F.length : Int)) = valOf s (dropZ I ++ trimF F) (r - ((trimF F).length : Int)) := by
  obtain ⟨z, hz1, hz2⟩ := dropZ_split I
  obtain ⟨y, hy1, hy2⟩ := trimF_split F
  have hne : dropZ (dropZ I ++ trimF F) ≠ [] := by
    intro e
    obtain ⟨k, hk⟩ := dropZ_nil e
    have hI : dropZ I = [] := by
      cases hd : dropZ I with
      | nil => rfl
      | cons c r =>
        exfalso
        have := hz2 c r hd
        rw [hd] at hk
        have h48 : c ∈ List.replicate k (48 : Int) := by rw [← hk]; simp
        exact this (List.eq_of_mem_replicate h48)
    have hF : trimF F = [] := by
      refine Classical.byContradiction fun hF => ?_
      have hl : (trimF F).length ≠ 0 := fun e => hF (List.eq_nil_of_length_eq_zero e)
      have h1 := hy2 ((trimF F).length - 1) hF (by omega)
      have h2 := getD_mem' (l := trimF F) (k := (trimF F).length - 1) (by omega)
      have h48 : (trimF F).getD ((trimF F).length - 1) 0 ∈ List.replicate k (48 : Int) := by rw [← hk]; exact List.mem_append_right _ h2
      exact h1 (List.eq_of_mem_replicate h48)
    exact h ⟨hI, hF⟩
  have e1 : dropZ (I ++ F) = dropZ (dropZ I ++ trimF F) ++ List.replicate y 48 := by
    rw [hz1, List.append_assoc, dropZ_rep, hy1, ← List.append_assoc]
    rw [show trimF (trimF F ++ List.replicate y 48) = trimF F from by rw [← hy1]]
    rw [show dropZ (List.replicate z 48 ++ dropZ I) = dropZ I from by rw [← hz1]]
    exact dropZ_append hne _
  have e2 : tailZ (dropZ (I ++ F)).reverse (r - (F.length : Int)) = tailZ (dropZ (dropZ I ++ trimF F)).reverse (r - ((trimF F).length : Int)) := by
    rw [e1, List.reverse_append, List.reverse_replicate, tailZ_rep]
    have hl : (F.length : Int) = (trimF F).length + y := by
      have := congrArg List.length hy1
      simp at this
      omega
    congr 1
    omega
  unfold valOf
  rw [e2]
theorem valOf_zero (s I F : List Int) (p : Int) (h : dropZ I = [] ∧ trimF F = []) : valOf s (I ++ F) p = [48] := by
  obtain ⟨z, hz⟩ := dropZ_nil h.1
  obtain ⟨y, hy, _⟩ := trimF_split F
  rw [h.2, List.nil_append] at hy
  have e : dropZ (I ++ F) = [] := by
    rw [hz, hy, dropZ_rep]
    have := dropZ_rep y []
    rw [List.append_nil] at this
    exact this
  unfold valOf
  rw [e]
  rfl

theorem trimF_mem {F : List Int} {x : Int} (h : x ∈ trimF F) : x ∈ F := by
  obtain ⟨y, hy, _⟩ := trimF_split F
  rw [hy]
  exact List.mem_append_left _ h
theorem dropZ_mem2 {F : List Int} {x : Int} (h : x ∈ dropZ F) : x ∈ F := dropZ_mem F x h
theorem trimF_len (F : List Int) : (trimF F).length ≤ F.length := by
  obtain ⟨y, hy, _⟩ := trimF_split F
  have := congrArg List.length hy
  simp at this
  omega
theorem minus_sign (sg : List Int) : minus sg ∈ signsL := by
  unfold minus signsL
  split <;> simp

/-- The number that some digits write. -/
def numV (n : List Int) : Int := natAt n 0 n.length
/-- A power's text and what it says. -/
structure Ex (x : List Int) (ev : Int) : Prop where
  none_ : x = [] → ev = 0
  some_ : x ≠ [] → ∃ c s n, x = c :: (s ++ n) ∧ (c = 101 ∨ c = 69) ∧ (s = [] ∨ s = [43] ∨ s = [45]) ∧ 1 ≤ n.length ∧ n.length ≤ 3 ∧ (∀ d ∈ n, dig d) ∧ ev = (if s = [45] then -numV n else numV n)
  b : -400 ≤ ev ∧ ev ≤ 400
  r : (ev < 0 → 2 + dl (-ev) ≤ x.length) ∧ (0 < ev → 1 + dl ev ≤ x.length)

theorem natAt_same {xs ys : List Int} {p q : Nat} : ∀ c, (∀ k, k < c → xs.getD (p + k) 0 = ys.getD (q + k) 0) → natAt xs p c = natAt ys q c
  | 0, _ => by simp [natAt]
  | c + 1, h => by
    simp only [natAt]
    rw [natAt_same c (fun k hk => h k (by omega)), h c (by omega)]
theorem expo_num {n : List Int} (m : Bool) (h1 : 1 ≤ n.length) (h3 : n.length ≤ 3) (hd : ∀ d ∈ n, dig d) : expo n (0, m) = (numV n, m) := by
  match n, h1, h3 with
  | [a], _, _ =>
    have ha := hd a (by simp)
    unfold dig at ha
    have e1 : ¬ a = 45 := by omega
    have e2 : (48 ≤ a ∧ a ≤ 57) := ha
    simp [expo, numV, natAt, e1, e2]
  | [a, b], _, _ =>
    have ha := hd a (by simp)
    have hb := hd b (by simp)
    unfold dig at ha hb
    have e1 : ¬ a = 45 := by omega
    have e2 : (48 ≤ a ∧ a ≤ 57) := ha
    have e3 : ¬ b = 45 := by omega
    have e4 : (48 ≤ b ∧ b ≤ 57) := hb
    have e5 : a - 48 < 1000000 := by omega
    simp [expo, numV, natAt, e1, e2, e3, e4, e5]
  | [a, b, c], _, _ =>
    have ha := hd a (by simp)
    have hb := hd b (by simp)
    have hc := hd c (by simp)
    unfold dig at ha hb hc
    have e1 : ¬ a = 45 := by omega
    have e2 : (48 ≤ a ∧ a ≤ 57) := ha
    have e3 : ¬ b = 45 := by omega
    have e4 : (48 ≤ b ∧ b ≤ 57) := hb
    have e5 : a - 48 < 1000000 := by omega
    have e6 : ¬ c = 45 := by omega
    have e7 : (48 ≤ c ∧ c ≤ 57) := hc
    have e8 : (a - 48) * 10 + (b - 48) < 1000000 := by omega
    simp [expo, numV, natAt, e1, e2, e3, e4, e5, e6, e7, e8]
theorem numV_bound {n : List Int} (h3 : n.length ≤ 3) (hd : ∀ d ∈ n, dig d) : 0 ≤ numV n ∧ numV n < 1000 := by
  have h := natAt_bound (xs := n) (p := 0) (m := n.length) h3 (fun k _ hk => hd _ (getD_mem' (by omega))) n.length (Nat.le_refl _)
  unfold numV
  refine ⟨h.1, ?_⟩
  have := h.2
  split at this
  · omega
  · split at this
    · omega
    · split at this <;> omega
theorem ex_power {x : List Int} {ev p : Int} {d : List Int} (h : Ex x ev) : power ((d, p), x) = p + ev := by
  by_cases hx : x = []
  · have := h.none_ hx
    subst hx
    simp [power]
    omega
  · obtain ⟨c, s, n, rfl, hc, hs, h1, h3, hd, hev⟩ := h.some_ hx
    have hn := expo_num (m := false) h1 h3 hd
    have hn2 := expo_num (m := true) h1 h3 hd
    simp only [power]
    rcases hs with rfl | rfl | rfl
    · rw [List.nil_append, hn, hev]; simp
    · have e : expo (43 :: n) (0, false) = expo n (0, false) := by rw [expo, if_neg (by decide), if_neg (by decide)]
      rw [show ([43] : List Int) ++ n = 43 :: n from rfl, e, hn, hev]; simp
    · have e : expo (45 :: n) (0, false) = expo n (0, true) := by rw [expo, if_pos rfl]
      rw [show ([45] : List Int) ++ n = 45 :: n from rfl, e, hn2, hev]; simp
theorem ex_head {x : List Int} {ev : Int} (h : Ex x ev) : x = [] ∨ ∃ c r, x = c :: r ∧ (c = 101 ∨ c = 69) := by
  by_cases hx : x = []
  · exact .inl hx
  · obtain ⟨c, s, n, rfl, hc, _⟩ := h.some_ hx
    exact .inr ⟨c, _, rfl, hc⟩

theorem valL_num {d sg I F x : List Int} {ev : Int} (h : Dec d sg I F) (hx : Ex x ev) : valL (d ++ x) = valOf (minus sg) (I ++ F) (ev - (F.length : Int)) := by
  have h1 := signOf_dec h x
  have h2 := mant_dec I F x h.int h.fr (ex_head hx)
  have hp : parts (d ++ x) = (minus sg, (tailZ (dropZ (I ++ F)).reverse (ev - (F.length : Int))).1.reverse, (tailZ (dropZ (I ++ F)).reverse (ev - (F.length : Int))).2) := by
    unfold parts
    simp only
    rw [h1]
    simp only
    rw [h2, ex_power hx, show -(F.length : Int) + ev = ev - (F.length : Int) from by omega]
  unfold valL valOf
  rw [hp]

/-- The digits that count: none but digits, a nought at neither end. -/
structure Sig (D : List Int) : Prop where
  ne : 1 ≤ D.length
  fst : D.getD 0 0 ≠ 48
  lst : D.getD (D.length - 1) 0 ≠ 48
  dg : ∀ d ∈ D, dig d

theorem dropZ_of {D r : List Int} (h : 1 ≤ D.length) (h0 : D.getD 0 0 ≠ 48) : dropZ (D ++ r) = D ++ r := by
  cases D with
  | nil => simp at h
  | cons c D => rw [List.cons_append, dropZ, if_neg (by simpa using h0)]
theorem trimF_of {r D : List Int} (h : 1 ≤ D.length) (h0 : D.getD (D.length - 1) 0 ≠ 48) : trimF (r ++ D) = r ++ D := by
  unfold trimF
  obtain ⟨D', c, rfl⟩ : ∃ D' c, D = D' ++ [c] := by
    refine ⟨D.dropLast, D.getLast (fun e => by rw [e] at h; simp at h), ?_⟩
    exact (List.dropLast_concat_getLast _).symm
  have hc : c ≠ 48 := by
    rw [List.length_append, List.length_singleton, Nat.add_sub_cancel, getD_append_right' (Nat.le_refl _), Nat.sub_self] at h0
    simpa using h0
  rw [← List.append_assoc, List.reverse_append, List.reverse_singleton, List.cons_append, List.nil_append, dropZ, if_neg hc]
  simp
theorem tailZ_of {D : List Int} {p : Int} (h : 1 ≤ D.length) (h0 : D.getD (D.length - 1) 0 ≠ 48) : tailZ D.reverse p = (D.reverse, p) := by
  obtain ⟨D', c, rfl⟩ : ∃ D' c, D = D' ++ [c] := by
    refine ⟨D.dropLast, D.getLast (fun e => by rw [e] at h; simp at h), ?_⟩
    exact (List.dropLast_concat_getLast _).symm
  have hc : c ≠ 48 := by
    rw [List.length_append, List.length_singleton, Nat.add_sub_cancel, getD_append_right' (Nat.le_refl _), Nat.sub_self] at h0
    simpa using h0
  rw [List.reverse_append, List.reverse_singleton, List.cons_append, List.nil_append, tailZ, if_neg hc]
theorem fst_of {c : Int} {r l : List Int} (h : l = c :: r) : l.getD 0 0 = c := by rw [h]; rfl
theorem drop_first {I : List Int} (h : dropZ I ≠ []) : 1 ≤ (dropZ I).length ∧ (dropZ I).getD 0 0 ≠ 48 := by
  obtain ⟨z, _, h2⟩ := dropZ_split I
  cases hd : dropZ I with
  | nil => exact absurd hd h
  | cons c r => exact ⟨by simp, by have := h2 c r hd; simpa using this⟩
theorem trim_last {F : List Int} (h : trimF F ≠ []) : 1 ≤ (trimF F).length ∧ (trimF F).getD ((trimF F).length - 1) 0 ≠ 48 := by
  obtain ⟨z, _, h2⟩ := trimF_split F
  have hl : (trimF F).length ≠ 0 := fun e => h (List.eq_nil_of_length_eq_zero e)
  exact ⟨by omega, h2 _ h (by omega)⟩
theorem getD_of_append_last {a b : List Int} (h : 1 ≤ b.length) : (a ++ b).getD ((a ++ b).length - 1) 0 = b.getD (b.length - 1) 0 := by
  rw [List.length_append, getD_append_right' (by omega)]
  congr 1
  omega

/-- What counts of a number that isn't nought, and its value's text. -/
theorem sig_of {I F : List Int} (hI : ∀ d ∈ I, dig d) (hF : ∀ d ∈ F, dig d) (h : ¬ (dropZ I = [] ∧ trimF F = [])) : Sig (sigD (dropZ I) (trimF F)) ∧
    ∀ (s : List Int) (ev : Int), valOf s (I ++ F) (ev - (F.length : Int)) = s ++ sigD (dropZ I) (trimF F) ++ [101] ++ wholeL (nrm (dropZ I) (trimF F) + ev - ((sigD (dropZ I) (trimF F)).length : Int)) := by
  have hdI : ∀ d ∈ dropZ I, dig d := fun d hd => hI d (dropZ_mem2 hd)
  have hdF : ∀ d ∈ trimF F, dig d := fun d hd => hF d (trimF_mem hd)
  have key : ∀ (D : List Int) (q : Int) (s : List Int) (ev : Int), Sig D → tailZ (dropZ (dropZ I ++ trimF F)).reverse (ev - ((trimF F).length : Int)) = (D.reverse, q) → valOf s (I ++ F) (ev - (F.length : Int)) = s ++ D ++ [101] ++ wholeL q := by
    intro D q s ev hs ht
    rw [valOf_trim s I F ev h]
    unfold valOf
    rw [ht]
    simp only [List.reverse_reverse]
    rw [if_neg (fun e => by have := hs.ne; rw [e] at this; simp at this)]
  by_cases h0 : dropZ I = []
  · have hF0 : trimF F ≠ [] := fun e => h ⟨h0, e⟩
    obtain ⟨f1, f2⟩ := trim_last hF0
    obtain ⟨z, hz1, hz2⟩ := dropZ_split (trimF F)
    have hD : sigD (dropZ I) (trimF F) = dropZ (trimF F) := by unfold sigD; rw [if_pos h0]
    have hn : nrm (dropZ I) (trimF F) = ((dropZ (trimF F)).length : Int) - (trimF F).length := by unfold nrm; rw [if_pos h0]
    have hne : dropZ (trimF F) ≠ [] := by
      intro e
      rw [e, List.append_nil] at hz1
      have hm := getD_mem' (l := trimF F) (k := (trimF F).length - 1) (by omega)
      have : (trimF F).getD ((trimF F).length - 1) 0 ∈ List.replicate z (48 : Int) := by rw [← hz1]; exact hm
      exact f2 (List.eq_of_mem_replicate this)
    obtain ⟨g1, g2⟩ := drop_first hne
    have hl : (dropZ (trimF F)).getD ((dropZ (trimF F)).length - 1) 0 ≠ 48 := by
      have := getD_of_append_last (a := List.replicate z 48) (b := dropZ (trimF F)) g1
      rw [← hz1] at this
      rw [← this]
      exact f2
    rw [hD, hn]
    have hS : Sig (dropZ (trimF F)) := ⟨g1, g2, hl, fun d hd => hdF d (dropZ_mem2 hd)⟩
    refine ⟨hS, fun s ev => key _ _ s ev hS ?_⟩
    rw [h0, List.nil_append, tailZ_of g1 hl]
    congr 1
    omega
  · obtain ⟨g1, g2⟩ := drop_first h0
    have hn : nrm (dropZ I) (trimF F) = ((dropZ I).length : Int) := by unfold nrm; rw [if_neg h0]
    by_cases hF0 : trimF F = []
    · have hD : sigD (dropZ I) (trimF F) = trimF (dropZ I) := by unfold sigD; rw [if_neg h0, if_pos hF0]
      obtain ⟨y, hy1, hy2⟩ := trimF_split (dropZ I)
      have hne : trimF (dropZ I) ≠ [] := by
        intro e
        rw [e, List.nil_append] at hy1
        have hm := getD_mem' (l := dropZ I) (k := 0) (by omega)
        have : (dropZ I).getD 0 0 ∈ List.replicate y (48 : Int) := by rw [← hy1]; exact hm
        exact g2 (List.eq_of_mem_replicate this)
      obtain ⟨f1, f2⟩ := trim_last hne
      have hf : (trimF (dropZ I)).getD 0 0 ≠ 48 := by
        have := getD_append_left' (l := trimF (dropZ I)) (r := List.replicate y 48) (k := 0) (by omega)
        rw [← hy1] at this
        rw [← this]
        exact g2
      have hS : Sig (trimF (dropZ I)) := ⟨f1, hf, f2, fun d hd => hdI d (trimF_mem hd)⟩
      have hyl := congrArg List.length hy1
      rw [List.length_append, List.length_replicate] at hyl
      rw [hD, hn]
      refine ⟨hS, fun s ev => key _ _ s ev hS ?_⟩
      rw [hF0, List.append_nil, dropZ_twice]
      have e9 : (dropZ I).reverse = List.replicate y 48 ++ (trimF (dropZ I)).reverse := by
        conv => lhs; rw [hy1]
        rw [List.reverse_append, List.reverse_replicate]
      rw [e9, tailZ_rep, tailZ_of f1 f2]
      congr 1
      simp
      omega
    · obtain ⟨f1, f2⟩ := trim_last hF0
      have hD : sigD (dropZ I) (trimF F) = dropZ I ++ trimF F := by unfold sigD; rw [if_neg h0, if_neg hF0]
      have hS : Sig (dropZ I ++ trimF F) := by
        refine ⟨by rw [List.length_append]; omega, by rw [getD_append_left' (by omega)]; exact g2, by rw [getD_of_append_last f1]; exact f2, fun d hd => ?_⟩
        rcases List.mem_append.1 hd with hd | hd
        · exact hdI d hd
        · exact hdF d hd
      rw [hD, hn]
      refine ⟨hS, fun s ev => key _ _ s ev hS ?_⟩
      rw [dropZ_of g1 g2, tailZ_of hS.ne hS.lst]
      congr 1
      rw [List.length_append]
      omega

/-- A number's text: where its parts lie. -/
theorem Dec.num {d sg I F x : List Int} {ev : Int} (h : Dec d sg I F) (hx : Ex x ev) (h2 : 2 ≤ (d ++ x).length) (hl : I.length + F.length ≤ 40) :
    NumAt (d ++ x) (d ++ x).length d.length sg.length (sg.length + I.length) (I.length - (dropZ I).length) (decide (sg = [45])) (dropZ I) (trimF F) ev := by
  obtain ⟨hsg, hI, hF, hs, he⟩ := h
  obtain ⟨z, hz1, hz2⟩ := dropZ_split I
  obtain ⟨y, hy1, hy2⟩ := trimF_split F
  have hzl : I.length = z + (dropZ I).length := by
    have := congrArg List.length hz1
    simpa using this
  have hyl : F.length = (trimF F).length + y := by
    have := congrArg List.length hy1
    simpa using this
  have hz : I.length - (dropZ I).length = z := by omega
  rw [hz]
  have hsl : sg.length ≤ 1 := signs_len hsg
  have hlen : d.length = sg.length + I.length + (if F = [] then 0 else F.length + 1) := by
    rw [he]
    split <;> simp
    omega
  have hN : (d ++ x).length = d.length + x.length := List.length_append
  have gd : ∀ k, k < d.length → (d ++ x).getD k 0 = d.getD k 0 := fun k hk => getD_append_left' hk
  have gI : ∀ k, sg.length ≤ k → k < sg.length + I.length → (d ++ x).getD k 0 = I.getD (k - sg.length) 0 := by
    intro k h0 h1
    rw [gd k (by omega), he, getD_append_left' (by simp; omega), getD_append_right' h0]
  have gS : ∀ k, k < sg.length → (d ++ x).getD k 0 = sg.getD k 0 := by
    intro k h0
    rw [gd k (by omega), he, getD_append_left' (by simp; omega), getD_append_left' h0]
  have gD : F ≠ [] → (d ++ x).getD (sg.length + I.length) 0 = 46 := by
    intro hF0
    rw [gd _ (by rw [if_neg hF0] at hlen; omega), he, if_neg hF0, getD_append_right' (by simp)]
    simp
  have gF : ∀ k, sg.length + I.length < k → k < d.length → (d ++ x).getD k 0 = F.getD (k - (sg.length + I.length + 1)) 0 := by
    intro k h0 h1
    have hF0 : F ≠ [] := fun e => by rw [if_pos e] at hlen; omega
    rw [gd k h1, he, if_neg hF0, getD_append_right' (by simp; omega)]
    have : k - (sg ++ I).length = (k - (sg.length + I.length + 1)) + 1 := by simp; omega
    rw [this]
    rfl
  have gx : ∀ k, (d ++ x).getD (d.length + k) 0 = x.getD k 0 := fun k => by
    rw [getD_append_right' (by omega), Nat.add_sub_cancel_left]
  have hfr : F = [] ∨ (F ≠ [] ∧ d.length = sg.length + I.length + 1 + F.length) := by
    by_cases hF0 : F = []
    · exact .inl hF0
    · rw [if_neg hF0] at hlen
      exact .inr ⟨hF0, by omega⟩
  have hd0 : F = [] → d.length = sg.length + I.length := fun e => by rw [if_pos e] at hlen; omega
  refine ⟨rfl, by omega, h2, hsl, ⟨?_, ?_⟩, by omega, ?_, ?_, ?_, by omega, ?_, ?_, fun d hd => hI d (dropZ_mem2 hd), fun d hd => hF d (trimF_mem hd), ?_, ?_, ?_, ?_, ?_, ?_, ?_, hx.b, ⟨?_, ?_, ?_⟩⟩
  · intro h1
    have hg := gS 0 (by omega)
    simp only [signsL, List.mem_cons, List.not_mem_nil, or_false] at hsg
    rcases hsg with rfl | rfl | rfl
    · simp at h1
    · exact .inl ⟨hg, rfl⟩
    · exact .inr ⟨hg, rfl⟩
  · intro h1
    have e : sg = [] := List.eq_nil_of_length_eq_zero h1
    subst e
    have h0 : (d ++ x).getD 0 0 = 46 ∨ dig ((d ++ x).getD 0 0) := by
      cases hI0 : I with
      | nil =>
        left
        have hF0 : F ≠ [] := fun e => hs e hI0
        have := gD hF0
        rw [hI0] at this
        exact this
      | cons c r =>
        right
        rw [gI 0 (by simp) (by rw [hI0]; simp)]
        rw [hI0]
        exact hI c (by rw [hI0]; simp)
    refine ⟨rfl, ?_, ?_⟩ <;> (rcases h0 with h0 | h0 <;> unfold dig at h0 <;> omega)
  · intro h1
    have hF0 : F ≠ [] := fun e => by have := hd0 e; omega
    refine ⟨gD hF0, ?_⟩
    have : F.length ≠ 0 := fun e => hF0 (List.eq_nil_of_length_eq_zero e)
    rcases hfr with e | ⟨_, e⟩
    · exact absurd e hF0
    · omega
  · intro h1
    have hF0 : F = [] := by
      rcases hfr with e | ⟨_, e⟩
      · exact e
      · omega
    have hI0 := hs hF0
    have : I.length ≠ 0 := fun e => hI0 (List.eq_nil_of_length_eq_zero e)
    omega
  · intro k h0 h1 hk
    by_cases h3 : k < sg.length + I.length
    · rw [gI k h0 h3]
      exact hI _ (getD_mem' (by omega))
    · rcases hfr with e | ⟨_, e⟩
      · have := hd0 e; omega
      · rw [gF k (by omega) h1]
        exact hF _ (getD_mem' (by omega))
  · intro k h0 h1
    rw [gI k h0 (by omega), hz1, getD_append_left' (by simp; omega), getD_rep (by omega)]
  · intro h1
    rw [gI _ (by omega) h1, hz1, getD_append_right' (by simp)]
    have : 0 < (dropZ I).length := by omega
    cases hd : dropZ I with
    | nil => rw [hd] at this; simp at this
    | cons c r =>
      have := hz2 c r hd
      simp only [List.length_replicate, Nat.add_sub_cancel_left, Nat.sub_self]
      exact this
  · rcases hfr with e | ⟨_, e⟩
    · right
      have := hd0 e
      have hFl : F.length = 0 := by rw [e]; rfl
      omega
    · left
      omega
  · intro k h0 h1
    rcases hfr with e | ⟨_, e⟩
    · have := hd0 e
      have hFl : F.length = 0 := by rw [e]; rfl
      omega
    · rw [gF k (by omega) h1, hy1, getD_append_right' (by omega), getD_rep (by omega)]
  · intro h1
    have hne : trimF F ≠ [] := fun e => by rw [e] at h1; simp at h1
    rcases hfr with e | ⟨_, e⟩
    · exfalso
      have hFl : F.length = 0 := by rw [e]; rfl
      omega
    · rw [gF (sg.length + I.length + (trimF F).length) (by omega) (by omega), show sg.length + I.length + (trimF F).length - (sg.length + I.length + 1) = (trimF F).length - 1 from by omega]
      have e9 : ∀ G r k, F = G ++ r → k < G.length → F.getD k 0 = G.getD k 0 := fun G r k h hk => by rw [h, getD_append_left' hk]
      have e9 := e9 _ _ ((trimF F).length - 1) hy1 (by omega)
      rw [e9]
      exact hy2 _ hne (by omega)
  · intro k hk
    rw [gI _ (by omega) (by omega), show sg.length + z + k - sg.length = z + k from by omega]
    conv => lhs; rw [hz1]
    rw [getD_append_right' (by simp), List.length_replicate, Nat.add_sub_cancel_left]
  · intro k hk
    rcases hfr with e | ⟨_, e⟩
    · exfalso
      have hFl : F.length = 0 := by rw [e]; rfl
      omega
    · rw [gF _ (by omega) (by omega), show sg.length + I.length + 1 + k - (sg.length + I.length + 1) = k from by omega]
      conv => lhs; rw [hy1]
      rw [getD_append_left' hk]
  · intro h1
    exact hx.none_ (List.eq_nil_of_length_eq_zero (by omega))
  · intro h1
    obtain ⟨c, s, n, hxx, hc, hs2, n1, n3, hdn, hev⟩ := hx.some_ (fun e => by have h9 : x.length = 0 := congrArg List.length e; omega)
    have hx0 : (d ++ x).getD d.length 0 = c := by have := gx 0; rw [Nat.add_zero] at this; rw [this, hxx]; rfl
    refine ⟨by rw [hx0]; exact hc, ?_⟩
    have hn0 := hdn _ (getD_mem' (l := n) (k := 0) (by omega))
    unfold dig at hn0
    have hxl : x.length = 1 + s.length + n.length := by rw [hxx]; simp; omega
    have gn : ∀ k, k < n.length → (d ++ x).getD (d.length + 1 + s.length + k) 0 = n.getD k 0 := fun k hk => by
      rw [show d.length + 1 + s.length + k = d.length + (s.length + k + 1) from by omega, gx, hxx, List.getD_cons_succ, getD_append_right' (by omega), Nat.add_sub_cancel_left]
    have gs : 0 < s.length → (d ++ x).getD (d.length + 1) 0 = s.getD 0 0 := fun hs0 => by
      rw [gx, hxx, List.getD_cons_succ, getD_append_left' hs0]
    have hdg : ∀ q, q = s.length → ∀ k, d.length + 1 + q ≤ k → k < d.length + 1 + q + n.length → 48 ≤ (d ++ x).getD k 0 ∧ (d ++ x).getD k 0 ≤ 57 := fun q hq k h1 h2 => by
      subst hq
      rw [show k = d.length + 1 + s.length + (k - (d.length + 1 + s.length)) from by omega, gn _ (by omega)]
      exact hdn _ (getD_mem' (by omega))
    have hv : natAt (d ++ x) (d.length + 1 + s.length) n.length = numV n := natAt_same _ fun k hk => by
      rw [gn k hk, Nat.zero_add]
    rcases hs2 with rfl | rfl | rfl
    · simp only [List.length_nil, Nat.add_zero] at hxl hv gn hdg
      refine ⟨0, 0, n.length, by omega, by omega, fun e => by omega, fun _ => ?_, by omega, fun e => by omega, n1, n3, fun k a1 a2 => hdg 0 rfl k a1 a2, ?_⟩
      · have := gn 0 (by omega); rw [Nat.add_zero] at this; rw [this]; omega
      · rw [if_neg (by omega), hev, if_neg (by decide), ← hv]
    · simp only [List.length_singleton] at hxl hv gn hdg gs
      refine ⟨1, 0, n.length, by omega, by omega, fun _ => gs (by omega), fun e => by omega, by omega, fun e => by omega, n1, n3, fun k a1 a2 => hdg 1 rfl k a1 a2, ?_⟩
      rw [if_neg (by omega), hev, if_neg (by decide), ← hv]
    · simp only [List.length_singleton] at hxl hv gn hdg gs
      refine ⟨0, 1, n.length, by omega, by omega, fun e => by omega, fun _ => by rw [gs (by omega)]; decide, by omega, fun _ => by rw [Nat.add_zero]; exact gs (by omega), n1, n3, fun k a1 a2 => hdg 1 rfl k (by omega) (by omega), ?_⟩
      rw [if_pos rfl, hev, if_pos rfl, ← hv]
  · intro h1; have := hx.r.1 h1; omega
  · intro h1; have := hx.r.2 h1; omega
  · omega

end Go.Proofs.YthoekplablhgfaaGreatDoor

/- OLaw2 -/
namespace Go.Proofs.YthoekplablhgfaaGreatDoor
open Go.RowKit
set_option linter.unusedVariables false

theorem digs_dig {x : Int} (h0 : 0 ≤ x) (h1 : x < 1000) : ∀ d ∈ digs x, dig d := by
  intro d hd
  unfold digs at hd
  unfold dig
  split at hd
  · simp at hd; omega
  · split at hd
    · simp at hd; omega
    · simp at hd; omega
theorem digs_num {x : Int} (h0 : 0 ≤ x) (h1 : x < 1000) : numV (digs x) = x := by
  unfold digs numV
  split
  · simp [natAt]; omega
  · split
    · simp [natAt]; omega
    · simp [natAt]; omega
theorem digs_len {x : Int} : 1 ≤ (digs x).length ∧ (digs x).length ≤ 3 := by
  have h1 := digs_length x
  have h2 := dl_pos x
  omega
theorem ex_none : Ex [] 0 := ⟨fun _ => rfl, fun h => absurd rfl h, by omega, by omega, by omega⟩
theorem ex_pos {i : Int} (h0 : 0 ≤ i) (h1 : i ≤ 400) : Ex (101 :: digs i) i :=
  ⟨fun h => absurd h (by simp), fun _ => ⟨101, [], digs i, rfl, .inl rfl, .inl rfl, digs_len.1, digs_len.2, digs_dig h0 (by omega), by rw [if_neg (by decide), digs_num h0 (by omega)]⟩, by omega, by omega, fun _ => by have := digs_length i; simp; omega⟩
theorem ex_neg {i : Int} (h0 : 0 ≤ i) (h1 : i ≤ 400) : Ex (101 :: 45 :: digs i) (-i) :=
  ⟨fun h => absurd h (by simp), fun _ => ⟨101, [45], digs i, rfl, .inl rfl, .inr (.inr rfl), digs_len.1, digs_len.2, digs_dig h0 (by omega), by rw [if_pos rfl, digs_num h0 (by omega)]⟩, by omega, fun _ => by have := digs_length i; rw [Int.neg_neg]; simp; omega, fun h => by omega⟩

theorem Sig.drop {D : List Int} (h : Sig D) : dropZ D = D := by
  have := dropZ_of (r := []) h.ne h.fst
  rwa [List.append_nil] at this
theorem Sig.trim {D : List Int} (h : Sig D) : trimF D = D := by
  have := trimF_of (r := []) h.ne h.lst
  rwa [List.nil_append] at this
theorem Sig.ne_nil {D : List Int} (h : Sig D) : D ≠ [] := fun e => by have := h.ne; rw [e] at this; simp at this
theorem trimF_rep {D : List Int} (h : Sig D) (r : Nat) : trimF (D ++ List.replicate r 48) = D := by
  unfold trimF
  rw [List.reverse_append, List.reverse_replicate, dropZ_rep]
  have := h.trim
  unfold trimF at this
  exact this
theorem dropZ_none : dropZ ([] : List Int) = [] := rfl
theorem trimF_none : trimF ([] : List Int) = [] := rfl
theorem second_small {D F : List Int} {e : Int} (h : -3 ≤ e) : second D F e = false := by
  unfold second
  rw [decide_eq_false (by omega)]
  rfl

/-- The text that is laid is a number again: the same digits, the same power. -/
theorem body_again {D F : List Int} {e : Int} (hS : Sig D) (hn : D.length ≤ 25) (h0 : -340 ≤ e) (h1 : e ≤ 340) :
    ∃ I' F' x' ev', body D F e = I' ++ (if F' = [] then [] else 46 :: F') ++ x' ∧ (∀ d ∈ I', dig d) ∧ (∀ d ∈ F', dig d) ∧ (F' = [] → I' ≠ []) ∧ Ex x' ev' ∧ I'.length + F'.length ≤ 39 ∧
      ¬ (dropZ I' = [] ∧ trimF F' = []) ∧ sigD (dropZ I') (trimF F') = D ∧ nrm (dropZ I') (trimF F') + ev' = e ∧ body D (trimF F') e = body D F e ∧ (I' = [] ∨ I'.getD 0 0 ≠ 48) := by
  have hne := hS.ne
  have hnn := hS.ne_nil
  by_cases c1 : (D.length : Int) ≤ e
  · have hb : ∀ G, body D G e = D ++ posTail (e - D.length) := fun G => by unfold body; rw [if_pos c1]
    by_cases c2 : 3 ≤ e - D.length
    · refine ⟨D, [], 101 :: digs (e - D.length), e - D.length, ?_, hS.dg, fun d h => absurd h (by simp), fun _ => hnn, ex_pos (by omega) (by omega), by simp; omega, ?_, ?_, ?_, ?_, .inr hS.fst⟩
      · rw [hb, if_pos rfl]
        unfold posTail
        rw [if_pos c2, List.append_nil]
      · rw [hS.drop]; exact fun h => hnn h.1
      · rw [hS.drop, trimF_none]; unfold sigD; rw [if_neg hnn, if_pos rfl, hS.trim]
      · rw [hS.drop]; unfold nrm; rw [if_neg hnn]; omega
      · rw [hb, hb]
    · obtain ⟨r, hr⟩ : ∃ r : Nat, e - (D.length : Int) = r := ⟨(e - (D.length : Int)).toNat, by omega⟩
      refine ⟨D ++ List.replicate r 48, [], [], 0, ?_, ?_, fun d h => absurd h (by simp), fun _ h => by simp at h; exact hnn h.1, ex_none, by simp; omega, ?_, ?_, ?_, ?_, .inr (by rw [getD_append_left' (by omega)]; exact hS.fst)⟩
      · rw [hb, if_pos rfl]
        unfold posTail
        rw [if_neg c2, List.append_nil, List.append_nil, hr]
        simp
      · intro d hd
        rcases List.mem_append.1 hd with hd | hd
        · exact hS.dg d hd
        · rw [List.eq_of_mem_replicate hd]; unfold dig; omega
      · rw [dropZ_of hne hS.fst]; exact fun h => by have := h.1; simp at this; exact hnn this.1
      · rw [dropZ_of hne hS.fst, trimF_none]
        unfold sigD
        rw [if_neg (fun h => by simp at h; exact hnn h.1), if_pos rfl, trimF_rep hS]
      · rw [dropZ_of hne hS.fst]
        unfold nrm
        rw [if_neg (fun h => by simp at h; exact hnn h.1), List.length_append, List.length_replicate]
        omega
      · rw [hb, hb]
  · by_cases c2 : second D F e = true
    · have c2' := c2
      unfold second at c2'
      simp only [Bool.and_eq_true, decide_eq_true_eq] at c2'
      obtain ⟨⟨k1, k2⟩, k3⟩ := c2'
      have hb : ∀ G, second D G e = true → body D G e = 46 :: D ++ 101 :: 45 :: digs (-e) := fun G hG => by unfold body; rw [if_neg c1, if_pos hG]
      have c3 : second D D e = true := by
        unfold second
        simp only [Bool.and_eq_true, decide_eq_true_eq]
        exact ⟨⟨k1, k2⟩, hnn⟩
      refine ⟨[], D, 101 :: 45 :: digs (-e), e, ?_, fun d h => absurd h (by simp), hS.dg, fun h => absurd h hnn, ?_, by simp; omega, ?_, ?_, ?_, ?_, .inl rfl⟩
      · rw [hb F c2, if_neg hnn]; rfl
      · have := ex_neg (i := -e) (by omega) (by omega)
        rwa [Int.neg_neg] at this
      · rw [hS.trim]; exact fun h => hnn h.2
      · rw [hS.trim, dropZ_none]; unfold sigD; rw [if_pos rfl, hS.drop]
      · rw [hS.trim, dropZ_none]; unfold nrm; rw [if_pos rfl, hS.drop]; omega
      · rw [hS.trim, hb D c3, hb F c2]
    · have c2f : second D F e = false := by simpa using c2
      by_cases c3 : -li (e - D.length) ≤ e
      · have h3 : -3 ≤ e := by
          by_cases hneg : e < 0
          · exact (small3 (by omega) (by omega) c3 hneg).1
          · omega
        have hb : ∀ G, body D G e = (if e < 0 then 46 :: List.replicate (-e).toNat 48 ++ D else D.take e.toNat ++ 46 :: D.drop e.toNat) := fun G => by
          unfold body
          rw [if_neg c1, if_neg (by rw [second_small h3]; decide), if_pos c3]
        by_cases c4 : e < 0
        · obtain ⟨k, hk⟩ : ∃ k : Nat, -e = k := ⟨(-e).toNat, by omega⟩
          have hF : (List.replicate k (48 : Int) ++ D) ≠ [] := fun h => by simp at h; exact hnn h.2
          have hT : trimF (List.replicate k 48 ++ D) = List.replicate k 48 ++ D := trimF_of hne hS.lst
          have hD : dropZ (List.replicate k 48 ++ D) = D := by rw [dropZ_rep, hS.drop]
          refine ⟨[], List.replicate k 48 ++ D, [], 0, ?_, fun d h => absurd h (by simp), ?_, fun h => absurd h hF, ex_none, by simp; omega, ?_, ?_, ?_, ?_, .inl rfl⟩
          · rw [hb, if_pos c4, if_neg hF, hk]
            simp
          · intro d hd
            rcases List.mem_append.1 hd with hd | hd
            · rw [List.eq_of_mem_replicate hd]; unfold dig; omega
            · exact hS.dg d hd
          · rw [hT]; exact fun h => hF h.2
          · rw [hT, dropZ_none]; unfold sigD; rw [if_pos rfl, hD]
          · rw [hT, dropZ_none]; unfold nrm; rw [if_pos rfl, hD, List.length_append, List.length_replicate]; omega
          · rw [hb, hb]
        · obtain ⟨k, hk⟩ : ∃ k : Nat, e = k := ⟨e.toNat, by omega⟩
          have hkt : e.toNat = k := by omega
          have hdl : (D.drop k).length = D.length - k := List.length_drop
          have htl : (D.take k).length = k := by rw [List.length_take]; omega
          have hF : D.drop k ≠ [] := fun h => by rw [h] at hdl; simp at hdl; omega
          have hlast : (D.drop k).getD ((D.drop k).length - 1) 0 ≠ 48 := by
            rw [hdl, List.getD_eq_getElem?_getD, List.getElem?_drop, ← List.getD_eq_getElem?_getD, show k + (D.length - k - 1) = D.length - 1 from by omega]
            exact hS.lst
          have hT : trimF (D.drop k) = D.drop k := by
            have := trimF_of (r := []) (D := D.drop k) (by omega) hlast
            rwa [List.nil_append] at this
          have hD0 : dropZ (D.take k) = D.take k := by
            by_cases hk0 : k = 0
            · subst hk0; rfl
            · have := dropZ_of (D := D.take k) (r := []) (by omega) (by rw [List.getD_eq_getElem?_getD, List.getElem?_take, if_pos (by omega), ← List.getD_eq_getElem?_getD]; exact hS.fst)
              rwa [List.append_nil] at this
          refine ⟨D.take k, D.drop k, [], 0, ?_, fun d hd => hS.dg d (List.mem_of_mem_take hd), fun d hd => hS.dg d (List.mem_of_mem_drop hd), fun h => absurd h hF, ex_none, by omega, ?_, ?_, ?_, ?_, (Classical.byCases (fun hk0 : k = 0 => .inl (by rw [hk0]; rfl)) (fun hk0 => .inr (by rw [List.getD_eq_getElem?_getD, List.getElem?_take, if_pos (by omega), ← List.getD_eq_getElem?_getD]; exact hS.fst)))⟩
          · rw [hb, if_neg c4, if_neg hF, hkt, List.append_nil]
          · rw [hT]; exact fun h => hF h.2
          · rw [hT, hD0]
            unfold sigD
            by_cases hk0 : k = 0
            · subst hk0
              rw [if_pos (by simp), List.drop_zero, hS.drop]
            · rw [if_neg (fun h => by rw [h] at htl; simp at htl; omega), if_neg hF, List.take_append_drop]
          · rw [hT, hD0]
            unfold nrm
            by_cases hk0 : k = 0
            · subst hk0
              rw [if_pos (by simp), List.drop_zero, hS.drop]; omega
            · rw [if_neg (fun h => by rw [h] at htl; simp at htl; omega), htl]; omega
          · rw [hb, hb]
      · have hb : ∀ G, second D G e = false → body D G e = D ++ 101 :: 45 :: digs (-(e - D.length)) := fun G hG => by unfold body; rw [if_neg c1, if_neg (by rw [hG]; decide), if_neg c3]
        have c4 : second D [] e = false := by unfold second; simp
        refine ⟨D, [], 101 :: 45 :: digs (-(e - D.length)), e - D.length, ?_, hS.dg, fun d h => absurd h (by simp), fun _ => hnn, ?_, by simp; omega, ?_, ?_, ?_, ?_, .inr hS.fst⟩
        · rw [hb F c2f, if_pos rfl, List.append_nil]
        · have := ex_neg (i := -(e - D.length)) (by omega) (by omega)
          rwa [Int.neg_neg] at this
        · rw [hS.drop]; exact fun h => hnn h.1
        · rw [hS.drop, trimF_none]; unfold sigD; rw [if_neg hnn, if_pos rfl, hS.trim]
        · rw [hS.drop]; unfold nrm; rw [if_neg hnn]; omega
        · rw [trimF_none, hb [] c4, hb F c2f]

/-- A number's text, in its parts. -/
structure Num (t d sg I F x : List Int) (ev : Int) : Prop where
  eq : t = d ++ x
  dec : Dec d sg I F
  ex : Ex x ev
  len : I.length + F.length ≤ 40
/-- What the program makes of it. -/
def numOut (t sg I F : List Int) (ev : Int) : List Int := if t.length ≤ 1 then t else numR t (decide (sg = [45])) (dropZ I) (trimF F) ev

theorem sig_len {I F : List Int} : (sigD (dropZ I) (trimF F)).length ≤ I.length + F.length := by
  have a1 := dropZ_len I
  have a2 := trimF_len F
  have a3 := dropZ_len (trimF F)
  have a4 := trimF_len (dropZ I)
  unfold sigD
  split
  · omega
  · split
    · omega
    · rw [List.length_append]; omega
theorem nrm_len {I F : List Int} : -(F.length : Int) ≤ nrm (dropZ I) (trimF F) ∧ nrm (dropZ I) (trimF F) ≤ I.length := by
  have a1 := dropZ_len I
  have a2 := trimF_len F
  have a3 := dropZ_len (trimF F)
  unfold nrm
  split <;> omega

/-- What Number makes: a number again, of the same value; and Number leaves it. -/
theorem num_again {t d sg I F x : List Int} {ev : Int} (h : Num t d sg I F x ev) (hl : I.length + F.length ≤ 25) (hv : -310 ≤ ev ∧ ev ≤ 310) (hp : 0 < t.length) :
    ∃ d' sg' I' F' x' ev', Num (numOut t sg I F ev) d' sg' I' F' x' ev' ∧ numOut (numOut t sg I F ev) sg' I' F' ev' = numOut t sg I F ev ∧ valL (numOut t sg I F ev) = valL t ∧ 0 < (numOut t sg I F ev).length := by
  by_cases h1 : t.length ≤ 1
  · have hR : numOut t sg I F ev = t := by unfold numOut; rw [if_pos h1]
    rw [hR]
    exact ⟨d, sg, I, F, x, ev, h, hR, rfl, hp⟩
  · by_cases hz : dropZ I = [] ∧ trimF F = []
    · have hR : numOut t sg I F ev = [48] := by unfold numOut numR; rw [if_neg h1, if_pos hz]
      rw [hR]
      refine ⟨[48], [], [48], [], [], 0, ⟨rfl, ⟨by simp [signsL], ?_, fun _ h => absurd h (by simp), by simp, rfl⟩, ex_none, by simp⟩, rfl, ?_, by simp⟩
      · intro d hd
        simp at hd
        rw [hd]
        unfold dig
        omega
      · rw [h.eq, valL_num h.dec h.ex, valOf_zero _ _ _ _ hz]
        decide
    · by_cases ha : asIs (dropZ I) (trimF F) ev = true
      · have hR : numOut t sg I F ev = t := by unfold numOut numR; rw [if_neg h1, if_neg hz, if_pos ha]
        rw [hR]
        exact ⟨d, sg, I, F, x, ev, h, hR, rfl, hp⟩
      · obtain ⟨hS, hval⟩ := sig_of h.dec.int h.dec.fr hz
        obtain ⟨D, hD⟩ : ∃ D, sigD (dropZ I) (trimF F) = D := ⟨_, rfl⟩
        obtain ⟨e, he⟩ : ∃ e, nrm (dropZ I) (trimF F) + ev = e := ⟨_, rfl⟩
        have hR : numOut t sg I F ev = minus sg ++ body D (trimF F) e := by
          unfold numOut numR
          rw [if_neg h1, if_neg hz, if_neg ha, hD, he]
          unfold minus
          by_cases hs : sg = [45]
          · rw [if_pos (by simp [hs]), if_pos hs]
          · rw [if_neg (by simp [hs]), if_neg hs]
        have hn := nrm_len (I := I) (F := F)
        have hsl := sig_len (I := I) (F := F)
        rw [hD] at hS hval hsl
        obtain ⟨I', F', x', ev', b1, b2, b3, b4, b5, b6, b7, b8, b9, b10, _⟩ := body_again (F := trimF F) (e := e) hS (by omega) (by omega) (by omega)
        have hR2 : numOut t sg I F ev = (minus sg ++ I' ++ (if F' = [] then [] else 46 :: F')) ++ x' := by rw [hR, b1]; simp only [List.append_assoc]
        have hdec : Dec (minus sg ++ I' ++ (if F' = [] then [] else 46 :: F')) (minus sg) I' F' := ⟨minus_sign sg, b2, b3, b4, rfl⟩
        refine ⟨_, minus sg, I', F', x', ev', ⟨hR2, hdec, b5, by omega⟩, ?_, ?_, ?_⟩
        · obtain ⟨R, hRR⟩ : ∃ R, numOut t sg I F ev = R := ⟨_, rfl⟩
          rw [hRR] at hR ⊢
          unfold numOut
          split
          · rfl
          · unfold numR
            rw [if_neg b7]
            split
            · rfl
            · rw [b8, b9, b10, hR]
              unfold minus
              by_cases hs : sg = [45]
              · simp [hs]
              · simp [hs]
        · rw [hR2, valL_num hdec b5, h.eq, valL_num h.dec h.ex, minus_twice, hval]
          obtain ⟨hS', hval'⟩ := sig_of b2 b3 b7
          rw [hval', b8, b9, he]
        · have := body_pos (D := D) (F := trimF F) (e := e) hS.ne
          rw [hR, List.length_append]
          omega

theorem ex_byte {x : List Int} {ev : Int} (h : Ex x ev) : ∀ c ∈ x, byteN c := by
  intro c hc
  have hne : x ≠ [] := fun e => by rw [e] at hc; simp at hc
  obtain ⟨a, s, n, rfl, ha, hs, n1, n3, hd, _⟩ := h.some_ hne
  rcases List.mem_cons.1 hc with rfl | hc
  · unfold byteN; omega
  · rcases List.mem_append.1 hc with hc | hc
    · rcases hs with rfl | rfl | rfl
      · simp at hc
      · simp at hc; rw [hc]; unfold byteN; omega
      · simp at hc; rw [hc]; unfold byteN; omega
    · have := hd c hc
      unfold dig at this
      unfold byteN
      omega
theorem Num.byte {t d sg I F x : List Int} {ev : Int} (h : Num t d sg I F x ev) : ∀ c ∈ t, byteN c := by
  intro c hc
  rw [h.eq] at hc
  rcases List.mem_append.1 hc with hc | hc
  · exact h.dec.byte c hc
  · exact ex_byte h.ex c hc

end Go.Proofs.YthoekplablhgfaaGreatDoor

/- OJson -/
namespace Go.Proofs.YthoekplablhgfaaGreatDoor
open Go.RowKit
set_option linter.unusedVariables false

/-- A nought ahead of a bare point. -/
def fix0 (R : List Int) : List Int := if R.getD 0 0 = 46 then 48 :: R else if R.getD 0 0 = 45 ∧ R.getD 1 0 = 46 then 45 :: 48 :: R.drop 1 else R
/-- The parts of a number of JSON. -/
structure JP (t d sg I F x : List Int) (ev : Int) : Prop where
  num : Num t d sg I F x ev
  sgn : sg = [] ∨ sg = [45]
  ne : I ≠ []
  fst : I.length = 1 ∨ I.getD 0 0 ≠ 48
/-- What is made of a number. -/
def NumW (t u : List Int) : Prop := ∃ d sg I F x ev, JP t d sg I F x ev ∧ u = fix0 (numOut t sg I F ev)

theorem JP.txt {t d sg I F x : List Int} {ev : Int} (h : JP t d sg I F x ev) : NumTxt t := by
  refine ⟨sg, I, (if F = [] then [] else 46 :: F), x, h.sgn, h.ne, h.num.dec.int, h.fst, ?_, ?_, ?_⟩
  · by_cases hF : F = []
    · rw [if_pos hF]; exact .inl rfl
    · rw [if_neg hF]; exact .inr ⟨F, hF, h.num.dec.fr, rfl⟩
  · by_cases hx : x = []
    · exact .inl hx
    · obtain ⟨c, s, n, e, hc, hs, h1, h3, hd, _⟩ := h.num.ex.some_ hx
      exact .inr ⟨c, s, n, hc, hs, fun e => by rw [e] at h1; simp at h1, by omega, hd, e⟩
  · rw [h.num.eq, h.num.dec.eq]; simp only [List.append_assoc]
theorem fix0_num {t : List Int} (h : NumTxt t) : fix0 t = t := by
  obtain ⟨sg, I, F, X, hsg, hI, hd, _, _, _, rfl⟩ := h
  cases I with
  | nil => exact absurd rfl hI
  | cons c I =>
    have hc := hd c (by simp)
    unfold isDg at hc
    unfold fix0
    rcases hsg with rfl | rfl
    · have h1 : ¬ c = 46 := by omega
      have h2 : ¬ c = 45 := by omega
      simp [h1, h2]
    · have h1 : ¬ c = 46 := by omega
      simp [h1]
theorem JP.get0 {t d sg I F x : List Int} {ev : Int} (h : JP t d sg I F x ev) : t.getD 0 0 = 45 ∨ (48 ≤ t.getD 0 0 ∧ t.getD 0 0 ≤ 57) := by
  obtain ⟨c, r, e, hc⟩ := num_opens h.txt
  rw [e]
  unfold isDg at hc
  simpa using hc
theorem JP.pos {t d sg I F x : List Int} {ev : Int} (h : JP t d sg I F x ev) : 0 < t.length := by
  obtain ⟨c, r, e, hc⟩ := num_opens h.txt
  rw [e]; simp

/-- What comes out is a number of JSON, of the same value, and it stays. -/
theorem num_json {t d sg I F x : List Int} {ev : Int} (h : JP t d sg I F x ev) (hl : I.length + F.length ≤ 25) (hv : -310 ≤ ev ∧ ev ≤ 310) :
    ∃ J, J = fix0 (numOut t sg I F ev) ∧ NumW J J ∧ NumTxt J ∧ valL J = valL t := by
  refine ⟨_, rfl, ?_⟩
  by_cases h1 : t.length ≤ 1
  · have hR : numOut t sg I F ev = t := by unfold numOut; rw [if_pos h1]
    rw [hR, fix0_num h.txt]
    exact ⟨⟨d, sg, I, F, x, ev, h, by rw [hR, fix0_num h.txt]⟩, h.txt, rfl⟩
  · by_cases hz : dropZ I = [] ∧ trimF F = []
    · have hR : numOut t sg I F ev = [48] := by unfold numOut numR; rw [if_neg h1, if_pos hz]
      rw [hR]
      have hJ : JP [48] [48] [] [48] [] [] 0 := ⟨⟨rfl, ⟨by simp [signsL], fun d hd => by simp at hd; rw [hd]; unfold dig; omega, fun _ h => absurd h (by simp), by simp, rfl⟩, ex_none, by simp⟩, .inl rfl, by simp, .inl rfl⟩
      have hf : fix0 [48] = [48] := fix0_num hJ.txt
      rw [hf]
      refine ⟨⟨[48], [], [48], [], [], 0, hJ, ?_⟩, hJ.txt, ?_⟩
      · have : numOut [48] [] [48] [] 0 = [48] := rfl
        rw [this, hf]
      · rw [h.num.eq, valL_num h.num.dec h.num.ex, valOf_zero _ _ _ _ hz]
        decide
    · by_cases ha : asIs (dropZ I) (trimF F) ev = true
      · have hR : numOut t sg I F ev = t := by unfold numOut numR; rw [if_neg h1, if_neg hz, if_pos ha]
        rw [hR, fix0_num h.txt]
        exact ⟨⟨d, sg, I, F, x, ev, h, by rw [hR, fix0_num h.txt]⟩, h.txt, rfl⟩
      · obtain ⟨hS, hval⟩ := sig_of h.num.dec.int h.num.dec.fr hz
        obtain ⟨D, hD⟩ : ∃ D, sigD (dropZ I) (trimF F) = D := ⟨_, rfl⟩
        obtain ⟨e, he⟩ : ∃ e, nrm (dropZ I) (trimF F) + ev = e := ⟨_, rfl⟩
        have hms : minus sg = sg := by
          unfold minus
          rcases h.sgn with rfl | rfl <;> rfl
        have hR : numOut t sg I F ev = sg ++ body D (trimF F) e := by
          unfold numOut numR
          rw [if_neg h1, if_neg hz, if_neg ha, hD, he]
          rcases h.sgn with rfl | rfl <;> rfl
        have hn := nrm_len (I := I) (F := F)
        have hsl := sig_len (I := I) (F := F)
        rw [hD] at hS hval hsl
        obtain ⟨I', F', x', ev', b1, b2, b3, b4, b5, b6, b7, b8, b9, b10, b11⟩ := body_again (F := trimF F) (e := e) hS (by omega) (by omega) (by omega)
        have hsm : sg ∈ signsL := h.num.dec.sgn
        -- the digits ahead of the point, a nought if there are none
        obtain ⟨K, hK⟩ : ∃ K, (if I' = [] then [48] else I') = K := ⟨_, rfl⟩
        have hKd : ∀ d ∈ K, dig d := by
          rw [← hK]
          split
          · intro d hd; simp at hd; rw [hd]; unfold dig; omega
          · exact b2
        have hKn : K ≠ [] := by
          rw [← hK]
          split
          · simp
          · assumption
        have hK1 : K.length = 1 ∨ K.getD 0 0 ≠ 48 := by
          rw [← hK]
          split
          · exact .inl rfl
          · rename_i hne
            exact .inr (b11.resolve_left hne)
        have hKz : dropZ K = dropZ I' := by
          rw [← hK]
          split
          · rename_i hne
            rw [hne]; rfl
          · rfl
        have hJ : fix0 (numOut t sg I F ev) = (sg ++ K ++ (if F' = [] then [] else 46 :: F')) ++ x' := by
          rw [hR, b1, ← hK]
          by_cases hI' : I' = []
          · rw [if_pos hI', hI']
            have hF' : F' ≠ [] := fun hF => b4 hF hI'
            rw [if_neg hF']
            unfold fix0
            rcases h.sgn with rfl | rfl
            · simp
            · simp
          · rw [if_neg hI']
            cases I' with
            | nil => exact absurd rfl hI'
            | cons c r =>
              have hc := b2 c (by simp)
              unfold dig at hc
              unfold fix0
              have h5 : ¬ c = 46 := by omega
              have h6 : ¬ c = 45 := by omega
              rcases h.sgn with rfl | rfl
              · simp [h5, h6]
              · simp [h5]
        have hdec : Dec (sg ++ K ++ (if F' = [] then [] else 46 :: F')) sg K F' := ⟨hsm, hKd, b3, fun _ => hKn, rfl⟩
        have hlen : K.length + F'.length ≤ 40 := by
          rw [← hK]
          by_cases hI' : I' = []
          · rw [if_pos hI']; rw [hI'] at b6; simp at b6 ⊢; omega
          · rw [if_neg hI']; omega
        have hJP : JP ((sg ++ K ++ (if F' = [] then [] else 46 :: F')) ++ x') (sg ++ K ++ (if F' = [] then [] else 46 :: F')) sg K F' x' ev' := ⟨⟨rfl, hdec, b5, hlen⟩, h.sgn, hKn, hK1⟩
        rw [hJ]
        refine ⟨⟨_, sg, K, F', x', ev', hJP, ?_⟩, hJP.txt, ?_⟩
        · obtain ⟨T, hT⟩ : ∃ T, (sg ++ K ++ (if F' = [] then [] else 46 :: F')) ++ x' = T := ⟨_, rfl⟩
          have hfT : fix0 T = T := by rw [← hT]; exact fix0_num hJP.txt
          rw [hT] at hJ ⊢
          unfold numOut
          split
          · exact hfT.symm
          · unfold numR
            rw [hKz, if_neg b7]
            split
            · exact hfT.symm
            · rw [b8, b9, b10, ← hJ, hR]
              rcases h.sgn with rfl | rfl <;> rfl
        · rw [valL_num hdec b5, h.num.eq, valL_num h.num.dec h.num.ex, hms, hval]
          obtain ⟨hS', hval'⟩ := sig_of hKd b3 (by rw [hKz]; exact b7)
          rw [hval', hKz, b8, b9, he]

end Go.Proofs.YthoekplablhgfaaGreatDoor

/- OJnum -/
namespace Go.Proofs.YthoekplablhgfaaGreatDoor
open Go.RowKit
set_option linter.unusedVariables false

/-- The powers there are, and what they say. -/
def jpw : List (List Int × Int) := ([], 0) :: jeL.flatMap fun e => jesL.flatMap fun q => jexL.map fun n => (e ++ q ++ n, if q = [45] then -numV n else numV n)
def jfs : List (List Int) := [] :: jfrL
/-- It is not longer. -/
def lenOk (s i F : List Int) (p : List Int × Int) : Bool :=
  decide ((fix0 (numOut (s ++ i ++ (if F = [] then [] else 46 :: F) ++ p.1) s i F p.2)).length ≤ (s ++ i ++ (if F = [] then [] else 46 :: F) ++ p.1).length)
def lenAll (s i : List Int) : Bool := jfs.all fun F => jpw.all fun p => lenOk s i F p
theorem len00 : lenAll [] [48] = true := by decide +kernel
theorem len01 : lenAll [] [49] = true := by decide +kernel
theorem len02 : lenAll [] [49, 48] = true := by decide +kernel
theorem len03 : lenAll [] [49, 48, 48, 48, 48, 48] = true := by decide +kernel
theorem len04 : lenAll [] [49, 50, 51, 52, 53, 54, 55, 56, 57] = true := by decide +kernel
theorem len05 : lenAll [] [55] = true := by decide +kernel
theorem len06 : lenAll [] [49, 48, 48, 48, 48, 48, 48, 48, 48, 48, 48, 48, 48] = true := by decide +kernel
theorem len10 : lenAll [45] [48] = true := by decide +kernel
theorem len11 : lenAll [45] [49] = true := by decide +kernel
theorem len12 : lenAll [45] [49, 48] = true := by decide +kernel
theorem len13 : lenAll [45] [49, 48, 48, 48, 48, 48] = true := by decide +kernel
theorem len14 : lenAll [45] [49, 50, 51, 52, 53, 54, 55, 56, 57] = true := by decide +kernel
theorem len15 : lenAll [45] [55] = true := by decide +kernel
theorem len16 : lenAll [45] [49, 48, 48, 48, 48, 48, 48, 48, 48, 48, 48, 48, 48] = true := by decide +kernel
theorem len_any {s i : List Int} (hs : s ∈ jsgL) (hi : i ∈ jintL) : lenAll s i = true := by
  simp only [jsgL, jintL, List.mem_cons, List.not_mem_nil, or_false] at hs hi
  rcases hs with rfl | rfl
  · rcases hi with rfl | rfl | rfl | rfl | rfl | rfl | rfl
    · exact len00
    · exact len01
    · exact len02
    · exact len03
    · exact len04
    · exact len05
    · exact len06
  · rcases hi with rfl | rfl | rfl | rfl | rfl | rfl | rfl
    · exact len10
    · exact len11
    · exact len12
    · exact len13
    · exact len14
    · exact len15
    · exact len16
theorem jint_dig {i : List Int} (h : i ∈ jintL) : (∀ d ∈ i, dig d) ∧ i ≠ [] ∧ (i.length = 1 ∨ i.getD 0 0 ≠ 48) ∧ i.length ≤ 13 := by
  have h1 : (jintL.all fun l => l.all (fun d => decide (48 ≤ d) && decide (d ≤ 57)) && decide (l ≠ []) && (decide (l.length = 1) || decide (l.getD 0 0 ≠ 48)) && decide (l.length ≤ 13)) = true := by decide
  have h2 := List.all_eq_true.1 h1 i h
  simp only [Bool.and_eq_true, Bool.or_eq_true, decide_eq_true_eq, List.all_eq_true] at h2
  exact ⟨h2.1.1.1, h2.1.1.2, h2.1.2, h2.2⟩
theorem jfr_dig {i : List Int} (h : i ∈ jfrL) : (∀ d ∈ i, dig d) ∧ i ≠ [] ∧ i.length ≤ 8 := by
  have h1 : (jfrL.all fun l => l.all (fun d => decide (48 ≤ d) && decide (d ≤ 57)) && decide (l ≠ []) && decide (l.length ≤ 8)) = true := by decide
  have h2 := List.all_eq_true.1 h1 i h
  simp only [Bool.and_eq_true, decide_eq_true_eq, List.all_eq_true] at h2
  exact ⟨h2.1.1, h2.1.2, h2.2⟩
theorem jex_dig {n : List Int} (h : n ∈ jexL) : (∀ d ∈ n, dig d) ∧ 1 ≤ n.length ∧ n.length ≤ 3 ∧ 0 ≤ numV n ∧ numV n ≤ 300 ∧ dl (numV n) ≤ n.length := by
  have h1 : (jexL.all fun l => l.all (fun d => decide (48 ≤ d) && decide (d ≤ 57)) && decide (1 ≤ l.length) && decide (l.length ≤ 3) && decide (0 ≤ numV l) && decide (numV l ≤ 300) && decide (dl (numV l) ≤ l.length)) = true := by decide
  have h2 := List.all_eq_true.1 h1 n h
  simp only [Bool.and_eq_true, decide_eq_true_eq, List.all_eq_true] at h2
  exact ⟨h2.1.1.1.1.1, h2.1.1.1.1.2, h2.1.1.1.2, h2.1.1.2, h2.1.2, h2.2⟩
/-- The parts of a maker's number. -/
theorem JNum.parts {t : List Int} (h : JNum t) : ∃ d sg I F x ev, JP t d sg I F x ev ∧ I.length + F.length ≤ 25 ∧ (-310 ≤ ev ∧ ev ≤ 310) ∧ sg ∈ jsgL ∧ I ∈ jintL ∧ F ∈ jfs ∧ (x, ev) ∈ jpw ∧ t = sg ++ I ++ (if F = [] then [] else 46 :: F) ++ x := by
  obtain ⟨s, hs, i, hi, f, hf, x, hx, rfl⟩ := h
  obtain ⟨i1, i2, i3, i4⟩ := jint_dig hi
  obtain ⟨F, hF1, hF2, hF3, hF4⟩ : ∃ F, f = (if F = [] then [] else 46 :: F) ∧ F ∈ jfs ∧ (∀ d ∈ F, dig d) ∧ F.length ≤ 8 := by
    rcases hf with rfl | ⟨d, hd, rfl⟩
    · exact ⟨[], rfl, by simp [jfs], fun _ h => absurd h (by simp), by simp⟩
    · obtain ⟨f1, f2, f3⟩ := jfr_dig hd
      exact ⟨d, by rw [if_neg f2], by simp [jfs, hd], f1, f3⟩
  subst hF1
  have hs2 : s = [] ∨ s = [45] := by simpa [jsgL] using hs
  have hdec : Dec (s ++ i ++ (if F = [] then [] else 46 :: F)) s i F := ⟨by rcases hs2 with rfl | rfl <;> simp [signsL], i1, hF3, fun _ => i2, rfl⟩
  rcases hx with rfl | ⟨e, he, q, hq, n, hn, rfl⟩
  · refine ⟨_, s, i, F, [], 0, ⟨⟨by simp, hdec, ex_none, by omega⟩, hs2, i2, i3⟩, by omega, by omega, hs, hi, hF2, by simp [jpw], by simp⟩
  · obtain ⟨n1, n2, n3, n4, n5, n6⟩ := jex_dig hn
    obtain ⟨c, rfl, hc⟩ : ∃ c, e = [c] ∧ (c = 101 ∨ c = 69) := by
      simp only [jeL, List.mem_cons, List.not_mem_nil, or_false] at he
      rcases he with rfl | rfl
      · exact ⟨101, rfl, .inl rfl⟩
      · exact ⟨69, rfl, .inr rfl⟩
    have hq3 : (q = [] ∨ q = [43] ∨ q = [45]) := by simpa [jesL] using hq
    have hql : q.length ≤ 1 := by rcases hq3 with rfl | rfl | rfl <;> simp
    have hx1 : [c] ++ q ++ n = c :: (q ++ n) := by simp
    refine ⟨_, s, i, F, [c] ++ q ++ n, (if q = [45] then -numV n else numV n), ⟨⟨rfl, hdec, ⟨fun h => absurd h (by simp), fun _ => ⟨c, q, n, hx1, hc, hq3, n2, n3, n1, rfl⟩, ?_, ?_, ?_⟩, by omega⟩, hs2, i2, i3⟩, by omega, ?_, hs, hi, hF2, ?_, by simp⟩
    · split <;> omega
    · intro h
      split at h
      · rename_i hq45
        rw [if_pos hq45, hq45, Int.neg_neg]
        simp
        omega
      · omega
    · intro h
      split at h
      · omega
      · rename_i hq45
        rw [if_neg hq45]
        simp
        omega
    · split <;> omega
    · simp only [jpw, List.mem_cons, List.mem_flatMap, List.mem_map]
      exact .inr ⟨[c], he, q, hq, n, hn, rfl⟩
/-- What is made of a maker's number. -/
theorem JNum.out {t : List Int} (h : JNum t) : ∃ u, NumW t u ∧ NumW u u ∧ NumTxt u ∧ valL u = valL t ∧ u.length ≤ t.length ∧ NumTxt t := by
  obtain ⟨d, sg, I, F, x, ev, hJ, hl, hv, m1, m2, m3, m4, et⟩ := h.parts
  obtain ⟨J, eJ, j1, j2, j3⟩ := num_json hJ hl hv
  refine ⟨J, ⟨d, sg, I, F, x, ev, hJ, eJ⟩, j1, j2, j3, ?_, hJ.txt⟩
  have h1 := len_any m1 m2
  have h2 := List.all_eq_true.1 h1 F m3
  have h3 := List.all_eq_true.1 h2 (x, ev) m4
  simp only [lenOk, decide_eq_true_eq] at h3
  rw [eJ]
  have e2 := et
  rw [← e2] at h3
  exact h3

end Go.Proofs.YthoekplablhgfaaGreatDoor

/- JRem -/
namespace Go.Proofs.YthoekplablhgfaaGreatDoor
open Go.RowKit
set_option linter.unusedVariables false

/-- What is written ahead of a token. -/
def sep (skip : Bool) (top : Int) : List Int := if skip = true then [] else if top = 1 ∨ top = 3 then [44] else if top = 2 then [58] else []
/-- The state behind a value. -/
def aft (top : Int) : Int := if top = 2 then 1 else top
/-- A number, and what is written of it. -/
def NumTok (keep : Bool) (u u' : List Int) : Prop := NumTxt u ∧ u.length ≤ 60 ∧ (keep = true → u' = u) ∧ (keep = false → NumW u u')
/-- What is left, and what will be written of it: S and top the stack of states, nc: a comma is due, skip: none is written. -/
inductive Rem (keep : Bool) : List Int → Int → Bool → Bool → List Int → List Int → Prop
  | eof {skip : Bool} {pre : List Int} : JWs pre → Rem keep [] 0 true skip (pre ++ [0]) []
  | arr {S : List Int} {top : Int} {nc skip : Bool} {pre rest em : List Int} : S.length ≤ 1000 → (0 ≤ top ∧ top ≤ 3) → top ≠ 1 → PreOk nc top pre false → Rem keep (S ++ [top]) 3 false true rest em → Rem keep S top nc skip (pre ++ 91 :: rest) (sep skip top ++ 91 :: em)
  | obj {S : List Int} {top : Int} {nc skip : Bool} {pre rest em : List Int} : S.length ≤ 1000 → (0 ≤ top ∧ top ≤ 3) → top ≠ 1 → PreOk nc top pre false → Rem keep (S ++ [top]) 1 false true rest em → Rem keep S top nc skip (pre ++ 123 :: rest) (sep skip top ++ 123 :: em)
  | arrE {S : List Int} {t2 : Int} {nc nc' skip : Bool} {pre rest em : List Int} : (S ++ [t2]).length ≤ 1000 → PreOk nc 3 pre nc' → Rem keep S (aft t2) true false rest em → Rem keep (S ++ [t2]) 3 nc skip (pre ++ 93 :: rest) (93 :: em)
  | objE {S : List Int} {t2 : Int} {nc nc' skip : Bool} {pre rest em : List Int} : (S ++ [t2]).length ≤ 1000 → PreOk nc 1 pre nc' → Rem keep S (aft t2) true false rest em → Rem keep (S ++ [t2]) 1 nc skip (pre ++ 125 :: rest) (125 :: em)
  | str {S : List Int} {top : Int} {nc skip : Bool} {pre t rest em : List Int} : S.length ≤ 1000 → (0 ≤ top ∧ top ≤ 3) → top ≠ 1 → PreOk nc top pre false → JStr t → rest ≠ [] → Rem keep S (aft top) true false rest em → Rem keep S top nc skip (pre ++ (t ++ rest)) (sep skip top ++ (t ++ em))
  | num {S : List Int} {top : Int} {nc skip : Bool} {pre t t' rest em : List Int} : S.length ≤ 1000 → (0 ≤ top ∧ top ≤ 3) → top ≠ 1 → PreOk nc top pre false → NumTok keep t t' → rest ≠ [] → Stop (rest.getD 0 0) → Rem keep S (aft top) true false rest em → Rem keep S top nc skip (pre ++ (t ++ rest)) (sep skip top ++ (t' ++ em))
  | lit {S : List Int} {top : Int} {nc skip : Bool} {pre t rest em : List Int} : S.length ≤ 1000 → (0 ≤ top ∧ top ≤ 3) → top ≠ 1 → PreOk nc top pre false → t ∈ jlitL → rest ≠ [] → Rem keep S (aft top) true false rest em → Rem keep S top nc skip (pre ++ (t ++ rest)) (sep skip top ++ (t ++ em))
  | key {S : List Int} {nc skip : Bool} {pre t wk rest em : List Int} : S.length ≤ 1000 → PreOk nc 1 pre false → JStr t → JWs wk → Rem keep S 2 false false rest em → Rem keep S 1 nc skip (pre ++ (t ++ (wk ++ 58 :: rest))) (sep skip 1 ++ (t ++ em))

/-- With numbers changed. -/
def nv (f : List Int → List Int) : Nat → JVal → JVal
  | 0, v => v
  | d + 1, v => match v with
    | .lit t => .lit t
    | .num t => .num (f t)
    | .str t => .str t
    | .arr l => .arr (l.map (nv f d))
    | .obj l => .obj (l.map fun p => (p.1, nv f d p.2))
/-- A comma between. -/
def joinC : List (List Int) → List Int
  | [] => []
  | [a] => a
  | a :: b :: r => a ++ 44 :: joinC (b :: r)
/-- Written without white space. -/
def ot : Nat → JVal → List Int
  | 0, _ => []
  | d + 1, v => match v with
    | .lit t => t
    | .num t => t
    | .str t => t
    | .arr l => 91 :: (joinC (l.map (ot d)) ++ [93])
    | .obj l => 123 :: (joinC (l.map fun p => p.1 ++ 58 :: ot d p.2) ++ [125])
def otn (f : List Int → List Int) (d : Nat) (v : JVal) : List Int := ot d (nv f d v)

theorem rws_stop {s r : List Int} {c : Int} (hs : JWs s) (hc : Stop c) : Stop ((s ++ c :: r).getD 0 0) := by
  cases s with
  | nil => simpa using hc
  | cons a s =>
    have ha := hs a (by simp)
    simp
    unfold Stop isDg
    omega
theorem stop44 : Stop 44 := by unfold Stop isDg; omega
theorem stop93 : Stop 93 := by unfold Stop isDg; omega
theorem stop125 : Stop 125 := by unfold Stop isDg; omega
theorem stop0 : Stop 0 := by unfold Stop isDg; omega

section
variable {keep : Bool} {N : List Int → Prop} {f : List Int → List Int}
/-- What is said of a value's text of depth d. -/
def RemV (keep : Bool) (f : List Int → List Int) (d : Nat) (v : JVal) (t : List Int) : Prop :=
  ∀ (S : List Int) (top : Int) (nc skip : Bool) (pre rest em : List Int), S.length + d ≤ 900 → (0 ≤ top ∧ top ≤ 3) → top ≠ 1 → PreOk nc top pre false → rest ≠ [] → Stop (rest.getD 0 0) → Rem keep S (aft top) true false rest em →
    Rem keep S top nc skip (pre ++ (t ++ rest)) (sep skip top ++ (otn f d v ++ em))

theorem rem_items {d : Nat} {top : Int} {S rest em : List Int} (hS : S.length + (d + 1) ≤ 900) (hr : Rem keep S (aft top) true false rest em) : ∀ (l : List JVal) (u : List Int), l ≠ [] → Items (fun v t => RemV keep f d v t) l u → ∀ (nc skip : Bool) (pre : List Int), PreOk nc 3 pre false →
    Rem keep (S ++ [top]) 3 nc skip (pre ++ (u ++ 93 :: rest)) (sep skip 3 ++ (joinC (l.map (otn f d)) ++ 93 :: em)) := by
  intro l
  induction l with
  | nil => intro u h; exact absurd rfl h
  | cons x l ih =>
    intro u _ hi nc skip pre hp
    have hl : (S ++ [top]).length = S.length + 1 := by simp
    cases l with
    | nil =>
      obtain ⟨u1, s, h1, h2, rfl⟩ := hi
      have h3 := h1 (S ++ [top]) 3 nc skip pre (s ++ 93 :: rest) (93 :: em) (by omega) (by omega) (by omega) hp (by simp) (rws_stop h2 stop93) (.arrE (by omega) (.inl ⟨h2, rfl⟩) hr)
      rw [List.append_assoc u1 s]
      exact h3
    | cons y l =>
      obtain ⟨u1, s, s', v, h1, h2, h3, h4, rfl⟩ := hi
      have h5 := ih v (by simp) h4 true false (s ++ 44 :: s') (.inr ⟨s, s', rfl, h2, h3, .inl rfl, rfl⟩)
      have h6 := h1 (S ++ [top]) 3 nc skip pre _ _ (by omega) (by omega) (by omega) hp (by simp) (by
        rw [show s ++ 44 :: s' ++ (v ++ 93 :: rest) = s ++ 44 :: (s' ++ (v ++ 93 :: rest)) from by simp]
        exact rws_stop h2 stop44) h5
      rw [show u1 ++ s ++ 44 :: s' ++ v ++ 93 :: rest = u1 ++ (s ++ 44 :: s' ++ (v ++ 93 :: rest)) from by simp]
      have e : joinC ((x :: y :: l).map (otn f d)) ++ 93 :: em = otn f d x ++ (sep false 3 ++ (joinC ((y :: l).map (otn f d)) ++ 93 :: em)) := by
        simp [joinC, sep]
      rw [e]
      exact h6

theorem rem_pairs {d : Nat} {top : Int} {S rest em : List Int} (hS : S.length + (d + 1) ≤ 900) (hr : Rem keep S (aft top) true false rest em) : ∀ (l : List (List Int × JVal)) (u : List Int), l ≠ [] → Items (Pair JStr (fun v t => RemV keep f d v t)) l u → ∀ (nc skip : Bool) (pre : List Int), PreOk nc 1 pre false →
    Rem keep (S ++ [top]) 1 nc skip (pre ++ (u ++ 125 :: rest)) (sep skip 1 ++ (joinC (l.map fun p => p.1 ++ 58 :: otn f d p.2) ++ 125 :: em)) := by
  intro l
  induction l with
  | nil => intro u h; exact absurd rfl h
  | cons x l ih =>
    intro u _ hi nc skip pre hp
    have hl : (S ++ [top]).length = S.length + 1 := by simp
    cases l with
    | nil =>
      obtain ⟨u1, s, ⟨k1, k2, k3, hk, hk1, hk2, hv, rfl⟩, h2, rfl⟩ := hi
      have h3 := hv (S ++ [top]) 2 false false k2 (s ++ 125 :: rest) (125 :: em) (by omega) (by omega) (by omega) (.inl ⟨hk2, rfl⟩) (by simp) (rws_stop h2 stop125) (.objE (by omega) (.inl ⟨h2, rfl⟩) hr)
      have h4 := Rem.key (keep := keep) (S := S ++ [top]) (nc := nc) (skip := skip) (pre := pre) (t := x.1) (wk := k1) (by omega) hp hk hk1 h3
      rw [show x.1 ++ k1 ++ 58 :: k2 ++ k3 ++ s ++ 125 :: rest = x.1 ++ (k1 ++ 58 :: (k2 ++ (k3 ++ (s ++ 125 :: rest)))) from by simp]
      have e : joinC ([x].map fun p => p.1 ++ 58 :: otn f d p.2) ++ 125 :: em = x.1 ++ (sep false 2 ++ (otn f d x.2 ++ 125 :: em)) := by simp [joinC, sep]
      rw [e]
      exact h4
    | cons y l =>
      obtain ⟨u1, s, s', v, ⟨k1, k2, k3, hk, hk1, hk2, hv, rfl⟩, h2, h3, h4, rfl⟩ := hi
      have h5 := ih v (by simp) h4 true false (s ++ 44 :: s') (.inr ⟨s, s', rfl, h2, h3, .inr rfl, rfl⟩)
      have h6 := hv (S ++ [top]) 2 false false k2 _ _ (by omega) (by omega) (by omega) (.inl ⟨hk2, rfl⟩) (by simp) (by
        rw [show s ++ 44 :: s' ++ (v ++ 125 :: rest) = s ++ 44 :: (s' ++ (v ++ 125 :: rest)) from by simp]
        exact rws_stop h2 stop44) h5
      have h7 := Rem.key (keep := keep) (S := S ++ [top]) (nc := nc) (skip := skip) (pre := pre) (t := x.1) (wk := k1) (by omega) hp hk hk1 h6
      rw [show x.1 ++ k1 ++ 58 :: k2 ++ k3 ++ s ++ 44 :: s' ++ v ++ 125 :: rest = x.1 ++ (k1 ++ 58 :: (k2 ++ (k3 ++ (s ++ 44 :: s' ++ (v ++ 125 :: rest))))) from by simp]
      have e : joinC ((x :: y :: l).map fun p => p.1 ++ 58 :: otn f d p.2) ++ 125 :: em = x.1 ++ (sep false 2 ++ (otn f d x.2 ++ (sep false 1 ++ (joinC ((y :: l).map fun p => p.1 ++ 58 :: otn f d p.2) ++ 125 :: em)))) := by
        simp [joinC, sep]
      rw [e]
      exact h7

theorem Items.mono {α : Type} {T T' : α → List Int → Prop} (h : ∀ x u, T x u → T' x u) : ∀ {l : List α} {t : List Int}, Items T l t → Items T' l t
  | [], _, e => e
  | [x], _, ⟨u, s, h1, h2, e⟩ => ⟨u, s, h _ _ h1, h2, e⟩
  | x :: y :: l, _, ⟨u, s, s', v, h1, h2, h3, h4, e⟩ => ⟨u, s, s', v, h _ _ h1, h2, h3, Items.mono h (l := y :: l) h4, e⟩

theorem rem_val (hN : ∀ u, N u → NumTok keep u (f u)) : ∀ (d : Nat) (v : JVal) (t : List Int), JTxt (· ∈ jlitL) N JStr d v t → RemV keep f d v t := by
  intro d
  induction d with
  | zero => intro v t h; exact h.elim
  | succ d ih =>
    intro v t h S top nc skip pre rest em hS ht h1 hp hn hst hr
    unfold JTxt at h
    cases v with
    | lit w =>
      obtain ⟨h, rfl⟩ := h
      exact .lit (by omega) ht h1 hp h hn hr
    | num w =>
      obtain ⟨h, rfl⟩ := h
      exact .num (by omega) ht h1 hp (hN _ h) hn hst hr
    | str w =>
      obtain ⟨h, rfl⟩ := h
      exact .str (by omega) ht h1 hp h hn hr
    | arr l =>
      obtain ⟨_, s, u, hs, hu, rfl⟩ := h
      have hu' := Items.mono (fun x u h => ih x u h) hu
      have e : otn f (d + 1) (.arr l) = 91 :: (joinC (l.map (otn f d)) ++ [93]) := by
        unfold otn
        simp only [nv, ot, List.map_map]
        rfl
      have key : Rem keep (S ++ [top]) 3 false true (s ++ (u ++ 93 :: rest)) (joinC (l.map (otn f d)) ++ 93 :: em) := by
        by_cases hl : l = []
        · subst hl
          have hu0 : u = [] := hu
          subst hu0
          exact .arrE (by simp; omega) (.inl ⟨hs, rfl⟩) hr
        · exact rem_items (by omega) hr l u hl hu' false true s (.inl ⟨hs, rfl⟩)
      have h9 := Rem.arr (keep := keep) (skip := skip) (by omega) ht h1 hp key
      rw [e, show pre ++ (91 :: s ++ u ++ [93] ++ rest) = pre ++ 91 :: (s ++ (u ++ 93 :: rest)) from by simp, show 91 :: (joinC (l.map (otn f d)) ++ [93]) ++ em = 91 :: (joinC (l.map (otn f d)) ++ 93 :: em) from by simp]
      exact h9
    | obj l =>
      obtain ⟨_, s, u, hs, hu, rfl⟩ := h
      have hu' := Items.mono (T' := Pair JStr (fun v t => RemV keep f d v t)) (fun x u ⟨a, b, c, h1, h2, h3, h4, h5⟩ => ⟨a, b, c, h1, h2, h3, ih _ _ h4, h5⟩) hu
      have e : otn f (d + 1) (.obj l) = 123 :: (joinC (l.map fun p => p.1 ++ 58 :: otn f d p.2) ++ [125]) := by
        unfold otn
        simp only [nv, ot, List.map_map]
        rfl
      have key : Rem keep (S ++ [top]) 1 false true (s ++ (u ++ 125 :: rest)) (joinC (l.map fun p => p.1 ++ 58 :: otn f d p.2) ++ 125 :: em) := by
        by_cases hl : l = []
        · subst hl
          have hu0 : u = [] := hu
          subst hu0
          exact .objE (by simp; omega) (.inl ⟨hs, rfl⟩) hr
        · exact rem_pairs (by omega) hr l u hl hu' false true s (.inl ⟨hs, rfl⟩)
      have h9 := Rem.obj (keep := keep) (skip := skip) (by omega) ht h1 hp key
      rw [e, show pre ++ (123 :: s ++ u ++ [125] ++ rest) = pre ++ 123 :: (s ++ (u ++ 125 :: rest)) from by simp, show 123 :: (joinC (l.map fun p => p.1 ++ 58 :: otn f d p.2) ++ [125]) ++ em = 123 :: (joinC (l.map fun p => p.1 ++ 58 :: otn f d p.2) ++ 125 :: em) from by simp]
      exact h9
/-- The whole text. -/
theorem rem_all (hN : ∀ u, N u → NumTok keep u (f u)) {d : Nat} {v : JVal} {t w1 w2 : List Int} (h : JTxt (· ∈ jlitL) N JStr d v t) (hd : d ≤ 100) (h1 : JWs w1) (h2 : JWs w2) : Rem keep [] 0 false true (w1 ++ (t ++ (w2 ++ [0]))) (otn f d v) := by
  have h3 := rem_val hN d v t h [] 0 false true w1 (w2 ++ [0]) [] (by simp; omega) (by omega) (by omega) (.inl ⟨h1, rfl⟩) (by simp) (rws_stop h2 stop0) (.eof h2)
  simpa [sep] using h3
end

end Go.Proofs.YthoekplablhgfaaGreatDoor
