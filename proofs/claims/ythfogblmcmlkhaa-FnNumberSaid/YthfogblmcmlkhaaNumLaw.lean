/-
  The plain law of FnNumber: what Number makes of a number is a number of the same value, and Number leaves it.
-/
import Derived.Test.YthfogblmcmlkhaaDecLaw
import Derived.Test.YthfogblmcmlkhaaNumRoom
namespace Go.Proofs.Ythfogblmcmlkhaa
open Go.RowKit
set_option linter.unusedVariables false

/-- The number that some digits write. -/
def numV (n : List Int) : Int := natAt n 0 n.length
/-- A power's text and what it says. -/
structure Ex (x : List Int) (ev : Int) : Prop where
  none_ : x = [] → ev = 0
  some_ : x ≠ [] → ∃ c s n, x = c :: (s ++ n) ∧ (c = 101 ∨ c = 69) ∧ (s = [] ∨ s = [43] ∨ s = [45]) ∧ 1 ≤ n.length ∧ n.length ≤ 3 ∧ (∀ d ∈ n, dig d) ∧ ev = (if s = [45] then -numV n else numV n)
  b : -200 ≤ ev ∧ ev ≤ 200
  r : (ev < 0 → 2 + dl (-ev) ≤ x.length) ∧ (0 < ev → 1 + dl ev ≤ x.length)

theorem natAt_same {xs ys : List Int} {p q : Nat} : ∀ c, (∀ k, k < c → xs.getD (p + k) 0 = ys.getD (q + k) 0) → natAt xs p c = natAt ys q c
  | 0, _ => by simp [natAt]
  | c + 1, h => by
    simp only [natAt]
    rw [natAt_same c (fun k hk => h k (by omega)), h c (by omega)]
theorem expo_num {n : List Int} (m : Bool) (h1 : 1 ≤ n.length) (h3 : n.length ≤ 3) (hd : ∀ d ∈ n, dig d) : expo n (0, m) = (numV n, m) := by
  match n, h1, h3 with
  | [a], _, _ =>
    have ha := hd a (by simp)
    unfold dig at ha
    have e1 : ¬ a = 45 := by omega
    have e2 : (48 ≤ a ∧ a ≤ 57) := ha
    simp [expo, numV, natAt, e1, e2]
  | [a, b], _, _ =>
    have ha := hd a (by simp)
    have hb := hd b (by simp)
    unfold dig at ha hb
    have e1 : ¬ a = 45 := by omega
    have e2 : (48 ≤ a ∧ a ≤ 57) := ha
    have e3 : ¬ b = 45 := by omega
    have e4 : (48 ≤ b ∧ b ≤ 57) := hb
    have e5 : a - 48 < 1000000 := by omega
    simp [expo, numV, natAt, e1, e2, e3, e4, e5]
  | [a, b, c], _, _ =>
    have ha := hd a (by simp)
    have hb := hd b (by simp)
    have hc := hd c (by simp)
    unfold dig at ha hb hc
    have e1 : ¬ a = 45 := by omega
    have e2 : (48 ≤ a ∧ a ≤ 57) := ha
    have e3 : ¬ b = 45 := by omega
    have e4 : (48 ≤ b ∧ b ≤ 57) := hb
    have e5 : a - 48 < 1000000 := by omega
    have e6 : ¬ c = 45 := by omega
    have e7 : (48 ≤ c ∧ c ≤ 57) := hc
    have e8 : (a - 48) * 10 + (b - 48) < 1000000 := by omega
    simp [expo, numV, natAt, e1, e2, e3, e4, e5, e6, e7, e8]
theorem numV_bound {n : List Int} (h3 : n.length ≤ 3) (hd : ∀ d ∈ n, dig d) : 0 ≤ numV n ∧ numV n < 1000 := by
  have h := natAt_bound (xs := n) (p := 0) (m := n.length) h3 (fun k _ hk => hd _ (getD_mem' (by omega))) n.length (Nat.le_refl _)
  unfold numV
  refine ⟨h.1, ?_⟩
  have := h.2
  split at this
  · omega
  · split at this
    · omega
    · split at this <;> omega
theorem ex_power {x : List Int} {ev p : Int} {d : List Int} (h : Ex x ev) : power ((d, p), x) = p + ev := by
  by_cases hx : x = []
  · have := h.none_ hx
    subst hx
    simp [power]
    omega
  · obtain ⟨c, s, n, rfl, hc, hs, h1, h3, hd, hev⟩ := h.some_ hx
    have hn := expo_num (m := false) h1 h3 hd
    have hn2 := expo_num (m := true) h1 h3 hd
    simp only [power]
    rcases hs with rfl | rfl | rfl
    · rw [List.nil_append, hn, hev]; simp
    · have e : expo (43 :: n) (0, false) = expo n (0, false) := by rw [expo, if_neg (by decide), if_neg (by decide)]
      rw [show ([43] : List Int) ++ n = 43 :: n from rfl, e, hn, hev]; simp
    · have e : expo (45 :: n) (0, false) = expo n (0, true) := by rw [expo, if_pos rfl]
      rw [show ([45] : List Int) ++ n = 45 :: n from rfl, e, hn2, hev]; simp
theorem ex_head {x : List Int} {ev : Int} (h : Ex x ev) : x = [] ∨ ∃ c r, x = c :: r ∧ (c = 101 ∨ c = 69) := by
  by_cases hx : x = []
  · exact .inl hx
  · obtain ⟨c, s, n, rfl, hc, _⟩ := h.some_ hx
    exact .inr ⟨c, _, rfl, hc⟩

theorem valL_num {d sg I F x : List Int} {ev : Int} (h : Dec d sg I F) (hx : Ex x ev) : valL (d ++ x) = valOf (minus sg) (I ++ F) (ev - (F.length : Int)) := by
  have h1 := signOf_dec h x
  have h2 := mant_dec I F x h.int h.fr (ex_head hx)
  have hp : parts (d ++ x) = (minus sg, (tailZ (dropZ (I ++ F)).reverse (ev - (F.length : Int))).1.reverse, (tailZ (dropZ (I ++ F)).reverse (ev - (F.length : Int))).2) := by
    unfold parts
    simp only
    rw [h1]
    simp only
    rw [h2, ex_power hx, show -(F.length : Int) + ev = ev - (F.length : Int) from by omega]
  unfold valL valOf
  rw [hp]

/-- The digits that count: none but digits, a nought at neither end. -/
structure Sig (D : List Int) : Prop where
  ne : 1 ≤ D.length
  fst : D.getD 0 0 ≠ 48
  lst : D.getD (D.length - 1) 0 ≠ 48
  dg : ∀ d ∈ D, dig d

theorem dropZ_of {D r : List Int} (h : 1 ≤ D.length) (h0 : D.getD 0 0 ≠ 48) : dropZ (D ++ r) = D ++ r := by
  cases D with
  | nil => simp at h
  | cons c D => rw [List.cons_append, dropZ, if_neg (by simpa using h0)]
theorem trimF_of {r D : List Int} (h : 1 ≤ D.length) (h0 : D.getD (D.length - 1) 0 ≠ 48) : trimF (r ++ D) = r ++ D := by
  unfold trimF
  obtain ⟨D', c, rfl⟩ : ∃ D' c, D = D' ++ [c] := by
    refine ⟨D.dropLast, D.getLast (fun e => by rw [e] at h; simp at h), ?_⟩
    exact (List.dropLast_concat_getLast _).symm
  have hc : c ≠ 48 := by
    rw [List.length_append, List.length_singleton, Nat.add_sub_cancel, getD_append_right' (Nat.le_refl _), Nat.sub_self] at h0
    simpa using h0
  rw [← List.append_assoc, List.reverse_append, List.reverse_singleton, List.cons_append, List.nil_append, dropZ, if_neg hc]
  simp
theorem tailZ_of {D : List Int} {p : Int} (h : 1 ≤ D.length) (h0 : D.getD (D.length - 1) 0 ≠ 48) : tailZ D.reverse p = (D.reverse, p) := by
  obtain ⟨D', c, rfl⟩ : ∃ D' c, D = D' ++ [c] := by
    refine ⟨D.dropLast, D.getLast (fun e => by rw [e] at h; simp at h), ?_⟩
    exact (List.dropLast_concat_getLast _).symm
  have hc : c ≠ 48 := by
    rw [List.length_append, List.length_singleton, Nat.add_sub_cancel, getD_append_right' (Nat.le_refl _), Nat.sub_self] at h0
    simpa using h0
  rw [List.reverse_append, List.reverse_singleton, List.cons_append, List.nil_append, tailZ, if_neg hc]
theorem fst_of {c : Int} {r l : List Int} (h : l = c :: r) : l.getD 0 0 = c := by rw [h]; rfl
theorem drop_first {I : List Int} (h : dropZ I ≠ []) : 1 ≤ (dropZ I).length ∧ (dropZ I).getD 0 0 ≠ 48 := by
  obtain ⟨z, _, h2⟩ := dropZ_split I
  cases hd : dropZ I with
  | nil => exact absurd hd h
  | cons c r => exact ⟨by simp, by have := h2 c r hd; simpa using this⟩
theorem trim_last {F : List Int} (h : trimF F ≠ []) : 1 ≤ (trimF F).length ∧ (trimF F).getD ((trimF F).length - 1) 0 ≠ 48 := by
  obtain ⟨z, _, h2⟩ := trimF_split F
  have hl : (trimF F).length ≠ 0 := fun e => h (List.eq_nil_of_length_eq_zero e)
  exact ⟨by omega, h2 _ h (by omega)⟩
theorem getD_of_append_last {a b : List Int} (h : 1 ≤ b.length) : (a ++ b).getD ((a ++ b).length - 1) 0 = b.getD (b.length - 1) 0 := by
  rw [List.length_append, getD_append_right' (by omega)]
  congr 1
  omega

/-- What counts of a number that isn't nought, and its value's text. -/
theorem sig_of {I F : List Int} (hI : ∀ d ∈ I, dig d) (hF : ∀ d ∈ F, dig d) (h : ¬ (dropZ I = [] ∧ trimF F = [])) : Sig (sigD (dropZ I) (trimF F)) ∧
    ∀ (s : List Int) (ev : Int), valOf s (I ++ F) (ev - (F.length : Int)) = s ++ sigD (dropZ I) (trimF F) ++ [101] ++ wholeL (nrm (dropZ I) (trimF F) + ev - ((sigD (dropZ I) (trimF F)).length : Int)) := by
  have hdI : ∀ d ∈ dropZ I, dig d := fun d hd => hI d (dropZ_mem2 hd)
  have hdF : ∀ d ∈ trimF F, dig d := fun d hd => hF d (trimF_mem hd)
  have key : ∀ (D : List Int) (q : Int) (s : List Int) (ev : Int), Sig D → tailZ (dropZ (dropZ I ++ trimF F)).reverse (ev - ((trimF F).length : Int)) = (D.reverse, q) → valOf s (I ++ F) (ev - (F.length : Int)) = s ++ D ++ [101] ++ wholeL q := by
    intro D q s ev hs ht
    rw [valOf_trim s I F ev h]
    unfold valOf
    rw [ht]
    simp only [List.reverse_reverse]
    rw [if_neg (fun e => by have := hs.ne; rw [e] at this; simp at this)]
  by_cases h0 : dropZ I = []
  · have hF0 : trimF F ≠ [] := fun e => h ⟨h0, e⟩
    obtain ⟨f1, f2⟩ := trim_last hF0
    obtain ⟨z, hz1, hz2⟩ := dropZ_split (trimF F)
    have hD : sigD (dropZ I) (trimF F) = dropZ (trimF F) := by unfold sigD; rw [if_pos h0]
    have hn : nrm (dropZ I) (trimF F) = ((dropZ (trimF F)).length : Int) - (trimF F).length := by unfold nrm; rw [if_pos h0]
    have hne : dropZ (trimF F) ≠ [] := by
      intro e
      rw [e, List.append_nil] at hz1
      have hm := getD_mem' (l := trimF F) (k := (trimF F).length - 1) (by omega)
      have : (trimF F).getD ((trimF F).length - 1) 0 ∈ List.replicate z (48 : Int) := by rw [← hz1]; exact hm
      exact f2 (List.eq_of_mem_replicate this)
    obtain ⟨g1, g2⟩ := drop_first hne
    have hl : (dropZ (trimF F)).getD ((dropZ (trimF F)).length - 1) 0 ≠ 48 := by
      have := getD_of_append_last (a := List.replicate z 48) (b := dropZ (trimF F)) g1
      rw [← hz1] at this
      rw [← this]
      exact f2
    rw [hD, hn]
    have hS : Sig (dropZ (trimF F)) := ⟨g1, g2, hl, fun d hd => hdF d (dropZ_mem2 hd)⟩
    refine ⟨hS, fun s ev => key _ _ s ev hS ?_⟩
    rw [h0, List.nil_append, tailZ_of g1 hl]
    congr 1
    omega
  · obtain ⟨g1, g2⟩ := drop_first h0
    have hn : nrm (dropZ I) (trimF F) = ((dropZ I).length : Int) := by unfold nrm; rw [if_neg h0]
    by_cases hF0 : trimF F = []
    · have hD : sigD (dropZ I) (trimF F) = trimF (dropZ I) := by unfold sigD; rw [if_neg h0, if_pos hF0]
      obtain ⟨y, hy1, hy2⟩ := trimF_split (dropZ I)
      have hne : trimF (dropZ I) ≠ [] := by
        intro e
        rw [e, List.nil_append] at hy1
        have hm := getD_mem' (l := dropZ I) (k := 0) (by omega)
        have : (dropZ I).getD 0 0 ∈ List.replicate y (48 : Int) := by rw [← hy1]; exact hm
        exact g2 (List.eq_of_mem_replicate this)
      obtain ⟨f1, f2⟩ := trim_last hne
      have hf : (trimF (dropZ I)).getD 0 0 ≠ 48 := by
        have := getD_append_left' (l := trimF (dropZ I)) (r := List.replicate y 48) (k := 0) (by omega)
        rw [← hy1] at this
        rw [← this]
        exact g2
      have hS : Sig (trimF (dropZ I)) := ⟨f1, hf, f2, fun d hd => hdI d (trimF_mem hd)⟩
      have hyl := congrArg List.length hy1
      rw [List.length_append, List.length_replicate] at hyl
      rw [hD, hn]
      refine ⟨hS, fun s ev => key _ _ s ev hS ?_⟩
      rw [hF0, List.append_nil, dropZ_twice]
      have e9 : (dropZ I).reverse = List.replicate y 48 ++ (trimF (dropZ I)).reverse := by
        conv => lhs; rw [hy1]
        rw [List.reverse_append, List.reverse_replicate]
      rw [e9, tailZ_rep, tailZ_of f1 f2]
      congr 1
      simp
      omega
    · obtain ⟨f1, f2⟩ := trim_last hF0
      have hD : sigD (dropZ I) (trimF F) = dropZ I ++ trimF F := by unfold sigD; rw [if_neg h0, if_neg hF0]
      have hS : Sig (dropZ I ++ trimF F) := by
        refine ⟨by rw [List.length_append]; omega, by rw [getD_append_left' (by omega)]; exact g2, by rw [getD_of_append_last f1]; exact f2, fun d hd => ?_⟩
        rcases List.mem_append.1 hd with hd | hd
        · exact hdI d hd
        · exact hdF d hd
      rw [hD, hn]
      refine ⟨hS, fun s ev => key _ _ s ev hS ?_⟩
      rw [dropZ_of g1 g2, tailZ_of hS.ne hS.lst]
      congr 1
      rw [List.length_append]
      omega

/-- A number's text: where its parts lie. -/
theorem Dec.num {d sg I F x : List Int} {ev : Int} (h : Dec d sg I F) (hx : Ex x ev) (h2 : 2 ≤ (d ++ x).length) (hl : I.length + F.length ≤ 40) :
    NumAt (d ++ x) (d ++ x).length d.length sg.length (sg.length + I.length) (I.length - (dropZ I).length) (decide (sg = [45])) (dropZ I) (trimF F) ev := by
  obtain ⟨hsg, hI, hF, hs, he⟩ := h
  obtain ⟨z, hz1, hz2⟩ := dropZ_split I
  obtain ⟨y, hy1, hy2⟩ := trimF_split F
  have hzl : I.length = z + (dropZ I).length := by
    have := congrArg List.length hz1
    simpa using this
  have hyl : F.length = (trimF F).length + y := by
    have := congrArg List.length hy1
    simpa using this
  have hz : I.length - (dropZ I).length = z := by omega
  rw [hz]
  have hsl : sg.length ≤ 1 := signs_len hsg
  have hlen : d.length = sg.length + I.length + (if F = [] then 0 else F.length + 1) := by
    rw [he]
    split <;> simp
    omega
  have hN : (d ++ x).length = d.length + x.length := List.length_append
  have gd : ∀ k, k < d.length → (d ++ x).getD k 0 = d.getD k 0 := fun k hk => getD_append_left' hk
  have gI : ∀ k, sg.length ≤ k → k < sg.length + I.length → (d ++ x).getD k 0 = I.getD (k - sg.length) 0 := by
    intro k h0 h1
    rw [gd k (by omega), he, getD_append_left' (by simp; omega), getD_append_right' h0]
  have gS : ∀ k, k < sg.length → (d ++ x).getD k 0 = sg.getD k 0 := by
    intro k h0
    rw [gd k (by omega), he, getD_append_left' (by simp; omega), getD_append_left' h0]
  have gD : F ≠ [] → (d ++ x).getD (sg.length + I.length) 0 = 46 := by
    intro hF0
    rw [gd _ (by rw [if_neg hF0] at hlen; omega), he, if_neg hF0, getD_append_right' (by simp)]
    simp
  have gF : ∀ k, sg.length + I.length < k → k < d.length → (d ++ x).getD k 0 = F.getD (k - (sg.length + I.length + 1)) 0 := by
    intro k h0 h1
    have hF0 : F ≠ [] := fun e => by rw [if_pos e] at hlen; omega
    rw [gd k h1, he, if_neg hF0, getD_append_right' (by simp; omega)]
    have : k - (sg ++ I).length = (k - (sg.length + I.length + 1)) + 1 := by simp; omega
    rw [this]
    rfl
  have gx : ∀ k, (d ++ x).getD (d.length + k) 0 = x.getD k 0 := fun k => by
    rw [getD_append_right' (by omega), Nat.add_sub_cancel_left]
  have hfr : F = [] ∨ (F ≠ [] ∧ d.length = sg.length + I.length + 1 + F.length) := by
    by_cases hF0 : F = []
    · exact .inl hF0
    · rw [if_neg hF0] at hlen
      exact .inr ⟨hF0, by omega⟩
  have hd0 : F = [] → d.length = sg.length + I.length := fun e => by rw [if_pos e] at hlen; omega
  refine ⟨rfl, by omega, h2, hsl, ⟨?_, ?_⟩, by omega, ?_, ?_, ?_, by omega, ?_, ?_, fun d hd => hI d (dropZ_mem2 hd), fun d hd => hF d (trimF_mem hd), ?_, ?_, ?_, ?_, ?_, ?_, ?_, hx.b, ⟨?_, ?_, ?_⟩⟩
  · intro h1
    have hg := gS 0 (by omega)
    simp only [signsL, List.mem_cons, List.not_mem_nil, or_false] at hsg
    rcases hsg with rfl | rfl | rfl
    · simp at h1
    · exact .inl ⟨hg, rfl⟩
    · exact .inr ⟨hg, rfl⟩
  · intro h1
    have e : sg = [] := List.eq_nil_of_length_eq_zero h1
    subst e
    have h0 : (d ++ x).getD 0 0 = 46 ∨ dig ((d ++ x).getD 0 0) := by
      cases hI0 : I with
      | nil =>
        left
        have hF0 : F ≠ [] := fun e => hs e hI0
        have := gD hF0
        rw [hI0] at this
        exact this
      | cons c r =>
        right
        rw [gI 0 (by simp) (by rw [hI0]; simp)]
        rw [hI0]
        exact hI c (by rw [hI0]; simp)
    refine ⟨rfl, ?_, ?_⟩ <;> (rcases h0 with h0 | h0 <;> unfold dig at h0 <;> omega)
  · intro h1
    have hF0 : F ≠ [] := fun e => by have := hd0 e; omega
    refine ⟨gD hF0, ?_⟩
    have : F.length ≠ 0 := fun e => hF0 (List.eq_nil_of_length_eq_zero e)
    rcases hfr with e | ⟨_, e⟩
    · exact absurd e hF0
    · omega
  · intro h1
    have hF0 : F = [] := by
      rcases hfr with e | ⟨_, e⟩
      · exact e
      · omega
    have hI0 := hs hF0
    have : I.length ≠ 0 := fun e => hI0 (List.eq_nil_of_length_eq_zero e)
    omega
  · intro k h0 h1 hk
    by_cases h3 : k < sg.length + I.length
    · rw [gI k h0 h3]
      exact hI _ (getD_mem' (by omega))
    · rcases hfr with e | ⟨_, e⟩
      · have := hd0 e; omega
      · rw [gF k (by omega) h1]
        exact hF _ (getD_mem' (by omega))
  · intro k h0 h1
    rw [gI k h0 (by omega), hz1, getD_append_left' (by simp; omega), getD_rep (by omega)]
  · intro h1
    rw [gI _ (by omega) h1, hz1, getD_append_right' (by simp)]
    have : 0 < (dropZ I).length := by omega
    cases hd : dropZ I with
    | nil => rw [hd] at this; simp at this
    | cons c r =>
      have := hz2 c r hd
      simp only [List.length_replicate, Nat.add_sub_cancel_left, Nat.sub_self]
      exact this
  · rcases hfr with e | ⟨_, e⟩
    · right
      have := hd0 e
      have hFl : F.length = 0 := by rw [e]; rfl
      omega
    · left
      omega
  · intro k h0 h1
    rcases hfr with e | ⟨_, e⟩
    · have := hd0 e
      have hFl : F.length = 0 := by rw [e]; rfl
      omega
    · rw [gF k (by omega) h1, hy1, getD_append_right' (by omega), getD_rep (by omega)]
  · intro h1
    have hne : trimF F ≠ [] := fun e => by rw [e] at h1; simp at h1
    rcases hfr with e | ⟨_, e⟩
    · exfalso
      have hFl : F.length = 0 := by rw [e]; rfl
      omega
    · rw [gF (sg.length + I.length + (trimF F).length) (by omega) (by omega), show sg.length + I.length + (trimF F).length - (sg.length + I.length + 1) = (trimF F).length - 1 from by omega]
      have e9 : ∀ G r k, F = G ++ r → k < G.length → F.getD k 0 = G.getD k 0 := fun G r k h hk => by rw [h, getD_append_left' hk]
      have e9 := e9 _ _ ((trimF F).length - 1) hy1 (by omega)
      rw [e9]
      exact hy2 _ hne (by omega)
  · intro k hk
    rw [gI _ (by omega) (by omega), show sg.length + z + k - sg.length = z + k from by omega]
    conv => lhs; rw [hz1]
    rw [getD_append_right' (by simp), List.length_replicate, Nat.add_sub_cancel_left]
  · intro k hk
    rcases hfr with e | ⟨_, e⟩
    · exfalso
      have hFl : F.length = 0 := by rw [e]; rfl
      omega
    · rw [gF _ (by omega) (by omega), show sg.length + I.length + 1 + k - (sg.length + I.length + 1) = k from by omega]
      conv => lhs; rw [hy1]
      rw [getD_append_left' hk]
  · intro h1
    exact hx.none_ (List.eq_nil_of_length_eq_zero (by omega))
  · intro h1
    obtain ⟨c, s, n, hxx, hc, hs2, n1, n3, hdn, hev⟩ := hx.some_ (fun e => by have h9 : x.length = 0 := congrArg List.length e; omega)
    have hx0 : (d ++ x).getD d.length 0 = c := by have := gx 0; rw [Nat.add_zero] at this; rw [this, hxx]; rfl
    refine ⟨by rw [hx0]; exact hc, ?_⟩
    have hn0 := hdn _ (getD_mem' (l := n) (k := 0) (by omega))
    unfold dig at hn0
    have hxl : x.length = 1 + s.length + n.length := by rw [hxx]; simp; omega
    have gn : ∀ k, k < n.length → (d ++ x).getD (d.length + 1 + s.length + k) 0 = n.getD k 0 := fun k hk => by
      rw [show d.length + 1 + s.length + k = d.length + (s.length + k + 1) from by omega, gx, hxx, List.getD_cons_succ, getD_append_right' (by omega), Nat.add_sub_cancel_left]
    have gs : 0 < s.length → (d ++ x).getD (d.length + 1) 0 = s.getD 0 0 := fun hs0 => by
      rw [gx, hxx, List.getD_cons_succ, getD_append_left' hs0]
    have hdg : ∀ q, q = s.length → ∀ k, d.length + 1 + q ≤ k → k < d.length + 1 + q + n.length → 48 ≤ (d ++ x).getD k 0 ∧ (d ++ x).getD k 0 ≤ 57 := fun q hq k h1 h2 => by
      subst hq
      rw [show k = d.length + 1 + s.length + (k - (d.length + 1 + s.length)) from by omega, gn _ (by omega)]
      exact hdn _ (getD_mem' (by omega))
    have hv : natAt (d ++ x) (d.length + 1 + s.length) n.length = numV n := natAt_same _ fun k hk => by
      rw [gn k hk, Nat.zero_add]
    rcases hs2 with rfl | rfl | rfl
    · simp only [List.length_nil, Nat.add_zero] at hxl hv gn hdg
      refine ⟨0, 0, n.length, by omega, by omega, fun e => by omega, fun _ => ?_, by omega, fun e => by omega, n1, n3, fun k a1 a2 => hdg 0 rfl k a1 a2, ?_⟩
      · have := gn 0 (by omega); rw [Nat.add_zero] at this; rw [this]; omega
      · rw [if_neg (by omega), hev, if_neg (by decide), ← hv]
    · simp only [List.length_singleton] at hxl hv gn hdg gs
      refine ⟨1, 0, n.length, by omega, by omega, fun _ => gs (by omega), fun e => by omega, by omega, fun e => by omega, n1, n3, fun k a1 a2 => hdg 1 rfl k a1 a2, ?_⟩
      rw [if_neg (by omega), hev, if_neg (by decide), ← hv]
    · simp only [List.length_singleton] at hxl hv gn hdg gs
      refine ⟨0, 1, n.length, by omega, by omega, fun e => by omega, fun _ => by rw [gs (by omega)]; decide, by omega, fun _ => by rw [Nat.add_zero]; exact gs (by omega), n1, n3, fun k a1 a2 => hdg 1 rfl k (by omega) (by omega), ?_⟩
      rw [if_pos rfl, hev, if_pos rfl, ← hv]
  · intro h1; have := hx.r.1 h1; omega
  · intro h1; have := hx.r.2 h1; omega
  · omega

end Go.Proofs.Ythfogblmcmlkhaa
