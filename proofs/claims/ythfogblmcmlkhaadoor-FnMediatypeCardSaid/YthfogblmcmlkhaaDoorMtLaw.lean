/-
  The plain law of FnMediatype: on the texts that MediaText makes, mt is what Bare says, and stays.
-/
import Derived.Test.YthfogblmcmlkhaaDoorMtTop
namespace Go.Proofs.YthfogblmcmlkhaaDoor
open Go.RowKit
set_option linter.unusedVariables false

/-- Where Mediatype stands, told off the text alone: an is what is kept, each byte with whether it stands in quotes. -/
structure Ix where
  i : Nat
  j : Nat
  start : Nat
  ls : Nat
  q : Bool
  an : List (Int × Bool)
def stepX (x : Ix) (c : Int) : Ix :=
  if x.q = false ∧ ws c = true then { x with i := x.i + 1, j := x.j + (x.i - x.start), start := x.i + 1 }
  else if c = 34 then
    if x.q = false then { x with i := x.i + 1, q := true, an := x.an ++ [(34, true)] }
    else { x with i := x.i + 1, q := false, ls := x.j + (x.i + 1 - x.start), an := x.an ++ [(34, false)] }
  else { x with i := x.i + 1, an := x.an ++ [(c, x.q)] }
def x0 : Ix := ⟨0, 0, 0, 0, false, []⟩
def runX (t : List Int) : Ix := t.foldl stepX x0
def shown (p : Int × Bool) : Int := if p.2 = true then p.1 else low p.1
def out (an : List (Int × Bool)) : List Int := an.map shown
def okX (x : Ix) : Prop := ∀ k c, x.an[k]? = some (c, true) → x.j ≤ k → x.ls ≤ k + (x.start - x.j) → low c = c
def Safe (t : List Int) : Prop := ∀ i, i < t.length → t.getD i 0 = 34 → (runX (t.take i)).q = false → okX (runX (t.take i))

theorem runX_snoc (t : List Int) (k : Nat) (h : k < t.length) : runX (t.take (k + 1)) = stepX (runX (t.take k)) (t.getD k 0) := by
  unfold runX
  rw [List.take_succ_eq_append_getElem h, List.foldl_append, List.getD_eq_getElem?_getD, List.getElem?_eq_getElem h]
  rfl

def pos (x : Ix) (k : Nat) : Nat := if k < x.j then k else k + (x.start - x.j)
structure Rel (t : List Int) (i : Nat) (st : St) (x : Ix) : Prop where
  ei : x.i = i
  ej : st.j = x.j
  es : st.start = x.start
  el : st.ls = x.ls
  eq : st.q = x.q
  len : x.an.length = x.j + (i - x.start)
  ls : x.ls ≤ x.an.length
  rest : ∀ k, i ≤ k → st.b[k]? = t[k]?
  at_ : ∀ k c f, x.an[k]? = some (c, f) → ∃ v, st.b[pos x k]? = some v ∧ (f = true → v = c) ∧ (f = false → low v = low c ∧ (k < x.ls ∨ x.q = true → v = low c))
  inq : x.q = false → ∀ k c, x.an[k]? = some (c, true) → k < x.ls

theorem w34 : ws 34 = false := by decide
theorem low_low (x : Int) : low (low x) = low x := by
  unfold low
  split
  · rw [if_neg (by omega)]
  · rfl
theorem getElem_of_some {α : Type} {l : List α} {k : Nat} {a : α} (h : l[k]? = some a) : k < l.length := (List.getElem?_eq_some_iff.1 h).1
theorem snoc_cases {α : Type} {l : List α} {a b : α} {k : Nat} (h : (l ++ [a])[k]? = some b) : l[k]? = some b ∨ (k = l.length ∧ a = b) := by
  rcases Nat.lt_trichotomy k l.length with h1 | h1 | h1
  · rw [List.getElem?_append_left h1] at h; exact .inl h
  · subst h1
    rw [List.getElem?_append_right (Nat.le_refl _)] at h
    simp at h
    exact .inr ⟨rfl, h⟩
  · rw [List.getElem?_eq_none (by simp; omega)] at h
    cases h

theorem rel_step {t : List Int} {i : Nat} {st : St} {x : Ix} (hr : Rel t i st x) (hI : Inv t.length i st) (hi : i < t.length) (hn : t.length ≤ 1000)
    (hs : t.getD i 0 = 34 → x.q = false → okX x) : Rel t (i + 1) (step i st) (stepX x (t.getD i 0)) := by
  obtain ⟨ei, ej, es, el, eq, len, hls, rest, at_, inq⟩ := hr
  obtain ⟨h1, h2, hjl, h3, h4, h5, h6, h7⟩ := hI
  obtain ⟨j, start, ls, q, b⟩ := st
  obtain ⟨xi, xj, xs, xl, xq, an⟩ := x
  simp only at ei ej es el eq h1 h2 hjl h3 h4 h5 h6 h7 len hls rest at_ inq
  subst ei ej es el eq
  have hc : b.getD xi 0 = t.getD xi 0 := by rw [List.getD_eq_getElem?_getD, List.getD_eq_getElem?_getD, rest xi (Nat.le_refl _)]
  have hbi : b[xi]? = some (t.getD xi 0) := by rw [rest xi (Nat.le_refl _), List.getD_eq_getElem?_getD, List.getElem?_eq_getElem hi]; rfl
  obtain ⟨c, hcd⟩ : ∃ c, t.getD xi 0 = c := ⟨_, rfl⟩
  rw [hcd] at hc hs hbi ⊢
  have hpos : ∀ k, k < an.length → (if k < j then k else k + (start - j)) < xi := by
    intro k hk
    split <;> omega
  by_cases hw : q = false ∧ ws c = true
  · by_cases h0 : start = 0
    · have hj0 := h2 h0
      subst h0 hj0
      have e1 : step xi ⟨0, 0, ls, q, b⟩ = ⟨0 + xi, xi + 1, ls, q, b⟩ := by simp only [step, hc]; rw [if_pos hw, if_pos trivial]
      have e2 : stepX ⟨xi, 0, 0, ls, q, an⟩ c = ⟨xi + 1, 0 + (xi - 0), xi + 1, ls, q, an⟩ := by simp only [stepX]; rw [if_pos hw]
      rw [e1, e2]
      refine ⟨rfl, by simp, rfl, rfl, rfl, by simp only; omega, hls, fun k hk => rest k (by omega), fun k c f h => ?_, inq⟩
      obtain ⟨v, hv, hv2⟩ := at_ k c f h
      refine ⟨v, ?_, hv2⟩
      have hkl : k < an.length := getElem_of_some h
      simp only [pos] at hv ⊢
      rw [if_neg (by omega)] at hv
      rw [if_pos (by omega)]
      simpa using hv
    · have e1 : step xi ⟨j, start, ls, q, b⟩ = ⟨j + (xi - start), xi + 1, ls, q, splice b j (cut b start xi)⟩ := by simp only [step, hc]; rw [if_pos hw, if_neg h0]
      have e2 : stepX ⟨xi, j, start, ls, q, an⟩ c = ⟨xi + 1, j + (xi - start), xi + 1, ls, q, an⟩ := by simp only [stepX]; rw [if_pos hw]
      have hl := cut_length b start xi h3 (by omega)
      rw [e1, e2]
      refine ⟨rfl, rfl, rfl, rfl, rfl, by simp only; omega, hls, fun k hk => ?_, fun k c f h => ?_, inq⟩
      · rw [splice_get _ _ _ _ (by rw [hl]; omega), if_neg (by rw [hl]; omega)]
        exact rest k (by omega)
      · obtain ⟨v, hv, hv2⟩ := at_ k c f h
        refine ⟨v, ?_, hv2⟩
        have hkl : k < an.length := getElem_of_some h
        simp only [pos] at hv ⊢
        rw [if_pos (by omega), splice_get _ _ _ _ (by rw [hl]; omega)]
        by_cases hk : k < j
        · rw [if_pos hk] at hv
          rw [if_neg (by omega)]
          exact hv
        · rw [if_neg hk] at hv
          rw [if_pos (by rw [hl]; omega), cut_get _ _ _ _ (by omega), if_pos (by omega), show start + (k - j) = k + (start - j) from by omega]
          exact hv
  · by_cases hq : c = 34
    · subst hq
      cases q with
      | false =>
        have e1 : step xi ⟨j, start, ls, false, b⟩ = ⟨j, start, ls, true, lowR ls xi b⟩ := by simp [step, hbi, w34, show xi - ls < 1024 from by omega]
        have e2 : stepX ⟨xi, j, start, ls, false, an⟩ 34 = ⟨xi + 1, j, start, ls, true, an ++ [(34, true)]⟩ := by simp [stepX, w34]
        have hok := hs rfl rfl
        rw [e1, e2]
        refine ⟨rfl, rfl, rfl, rfl, rfl, by simp only [List.length_append, List.length_cons, List.length_nil]; omega, by simp only [List.length_append]; omega, fun k hk => ?_, fun k c f h => ?_, fun h => by cases h⟩
        · rw [lowR_get, if_neg (by omega)]; exact rest k (by omega)
        · rcases snoc_cases h with h | ⟨hk, he⟩
          · obtain ⟨v, hv, hv2, hv3⟩ := at_ k c f h
            have hkl := getElem_of_some h
            have hp := hpos k hkl
            simp only [pos] at hv ⊢
            rw [lowR_get, hv]
            by_cases hin : ls ≤ (if k < j then k else k + (start - j))
            · rw [if_pos ⟨hin, hp⟩]
              refine ⟨low v, rfl, fun hf => ?_, fun hf => ?_⟩
              · subst hf
                have hkls := inq rfl k c h
                by_cases hkj : k < j
                · rw [if_pos hkj] at hin; omega
                · rw [if_neg hkj] at hin
                  rw [hv2 rfl]
                  exact hok k c h (by simp only; omega) hin
              · have := (hv3 hf).1
                exact ⟨by rw [low_low]; exact this, fun _ => this⟩
            · rw [if_neg (fun hh => hin hh.1)]
              refine ⟨v, rfl, hv2, fun hf => ⟨(hv3 hf).1, fun _ => (hv3 hf).2 (.inl ?_)⟩⟩
              split at hin <;> omega
          · injection he with he1 he2
            subst he1 he2 hk
            refine ⟨34, ?_, fun _ => rfl, fun hf => by cases hf⟩
            simp only [pos]
            rw [if_neg (by omega), show an.length + (start - j) = xi from by omega, lowR_get, if_neg (by omega)]
            exact hbi
      | true =>
        have e1 : step xi ⟨j, start, ls, true, b⟩ = ⟨j, start, j + (xi + 1 - start), false, b⟩ := by simp [step, hbi]
        have e2 : stepX ⟨xi, j, start, ls, true, an⟩ 34 = ⟨xi + 1, j, start, j + (xi + 1 - start), false, an ++ [(34, false)]⟩ := by simp [stepX]
        rw [e1, e2]
        refine ⟨rfl, rfl, rfl, rfl, rfl, by simp only [List.length_append, List.length_cons, List.length_nil]; omega, by simp only [List.length_append, List.length_cons, List.length_nil]; omega, fun k hk => rest k (by omega), fun k c f h => ?_, fun _ k c h => ?_⟩
        · rcases snoc_cases h with h | ⟨hk, he⟩
          · obtain ⟨v, hv, hv2, hv3⟩ := at_ k c f h
            exact ⟨v, hv, hv2, fun hf => ⟨(hv3 hf).1, fun _ => (hv3 hf).2 (.inr rfl)⟩⟩
          · injection he with he1 he2
            subst he1 he2 hk
            refine ⟨34, ?_, (fun hf => by cases hf), fun _ => ⟨rfl, fun _ => rfl⟩⟩
            simp only [pos]
            rw [if_neg (by omega), show an.length + (start - j) = xi from by omega]
            exact hbi
        · have := getElem_of_some h
          simp only [List.length_append, List.length_cons, List.length_nil] at this ⊢
          omega
    · have e1 : step xi ⟨j, start, ls, q, b⟩ = ⟨j, start, ls, q, b⟩ := by simp only [step, hc]; rw [if_neg hw, if_neg hq]
      have e2 : stepX ⟨xi, j, start, ls, q, an⟩ c = ⟨xi + 1, j, start, ls, q, an ++ [(c, q)]⟩ := by simp only [stepX]; rw [if_neg hw, if_neg hq]
      rw [e1, e2]
      refine ⟨rfl, rfl, rfl, rfl, rfl, by simp only [List.length_append, List.length_cons, List.length_nil]; omega, by simp only [List.length_append]; omega, fun k hk => rest k (by omega), fun k c' f h => ?_, fun hf k c' h => ?_⟩
      · rcases snoc_cases h with h | ⟨hk, he⟩
        · exact at_ k c' f h
        · injection he with he1 he2
          subst he1 he2 hk
          refine ⟨c, ?_, fun _ => rfl, fun hf => ⟨rfl, fun hh => ?_⟩⟩
          · simp only [pos]
            rw [if_neg (by omega), show an.length + (start - j) = xi from by omega]
            exact hbi
          · rcases hh with hh | hh
            · simp only at hh; omega
            · simp only at hh; rw [hh] at hf; cases hf
      · rcases snoc_cases h with h | ⟨hk, he⟩
        · exact inq hf k c' h
        · injection he with he1 he2
          simp only at hf
          rw [hf] at he2
          cases he2

theorem rel_run (t : List Int) (ht : ∀ k, byte (t.getD k 0)) (hn : t.length ≤ 1000) (hs : Safe t) : ∀ i, i ≤ t.length → Rel t i (runM t i) (runX (t.take i))
  | 0, _ => ⟨rfl, rfl, rfl, rfl, rfl, rfl, Nat.le_refl _, fun _ _ => rfl, fun k c f h => by simp [runX, x0] at h, fun _ k c h => by simp [runX, x0] at h⟩
  | i + 1, h => by
    rw [runX_snoc t i (by omega)]
    exact rel_step (rel_run t ht hn hs i (by omega)) (runM_inv t ht i (by omega)) (by omega) hn (fun h1 h2 => hs i (by omega) h1 h2)

theorem mt_end {t : List Int} {st : St} {x : Ix} (hr : Rel t t.length st x) (hI : Inv t.length t.length st) (hq : x.q = false) : mtEnd t.length st = out x.an := by
  obtain ⟨ei, ej, es, el, eq, len, hls, rest, at_, inq⟩ := hr
  obtain ⟨h1, h2, hjl, h3, h4, h5, h6, h7⟩ := hI
  obtain ⟨j, start, ls, q, b⟩ := st
  obtain ⟨xi, xj, xs, xl, xq, an⟩ := x
  simp only at ei ej es el eq h1 h2 hjl h3 h4 h5 h6 h7 len hls rest at_ inq hq
  subst ej es el eq hq
  have key : ∀ k c f v, an[k]? = some (c, f) → (f = true → v = c) → (f = false → low v = low c ∧ (k < ls ∨ false = true → v = low c)) → (if ls ≤ k then low v else v) = shown (c, f) := by
    intro k c f v h hv1 hv2
    cases f with
    | true =>
      have := inq rfl k c h
      rw [if_neg (by omega), hv1 rfl]
      rfl
    | false =>
      obtain ⟨a1, a2⟩ := hv2 rfl
      by_cases hk : ls ≤ k
      · rw [if_pos hk, a1]; rfl
      · rw [if_neg hk, a2 (.inl (by omega))]; rfl
  by_cases h0 : start = 0
  · have hj0 := h2 h0
    subst h0 hj0
    simp only [mtEnd, if_true]
    apply List.ext_getElem?
    intro k
    unfold out
    rw [lowR_get, List.getElem?_map]
    cases hk : an[k]? with
    | none =>
      have hkl : an.length ≤ k := by
        rcases Nat.lt_or_ge k an.length with h | h
        · rw [List.getElem?_eq_getElem h] at hk; cases hk
        · exact h
      rw [if_neg (by omega), List.getElem?_eq_none (by omega)]
      rfl
    | some p =>
      obtain ⟨c, f⟩ := p
      obtain ⟨v, hv, hv1, hv2⟩ := at_ k c f hk
      have hkl : k < an.length := getElem_of_some hk
      simp only [pos] at hv
      rw [if_neg (by omega), show k + (0 - 0) = k from by omega] at hv
      rw [hv]
      simp only [Option.map_some]
      rw [← key k c f v hk hv1 hv2]
      by_cases hk2 : ls ≤ k
      · rw [if_pos ⟨hk2, by omega⟩, if_pos hk2]
      · rw [if_neg (fun hh => hk2 hh.1), if_neg hk2]
  · simp only [mtEnd]
    rw [if_neg h0]
    have hl := cut_length b start t.length h3 (by omega)
    apply List.ext_getElem?
    intro k
    unfold out
    rw [List.getElem?_take, lowR_get, List.getElem?_map]
    cases hk : an[k]? with
    | none =>
      have hkl : an.length ≤ k := by
        rcases Nat.lt_or_ge k an.length with h | h
        · rw [List.getElem?_eq_getElem h] at hk; cases hk
        · exact h
      rw [if_neg (by omega)]
      rfl
    | some p =>
      obtain ⟨c, f⟩ := p
      obtain ⟨v, hv, hv1, hv2⟩ := at_ k c f hk
      have hkl : k < an.length := getElem_of_some hk
      simp only [pos] at hv
      rw [if_pos (by omega), Option.map_some, ← key k c f v hk hv1 hv2]
      have hsp : (splice b j (cut b start t.length))[k]? = some v := by
        rw [splice_get _ _ _ _ (by rw [hl]; omega)]
        by_cases hkj : k < j
        · rw [if_pos hkj] at hv
          rw [if_neg (by omega)]
          exact hv
        · rw [if_neg hkj] at hv
          rw [if_pos (by rw [hl]; omega), cut_get _ _ _ _ (by omega), if_pos (by omega), show start + (k - j) = k + (start - j) from by omega]
          exact hv
      rw [hsp]
      by_cases hk2 : ls ≤ k
      · rw [if_pos ⟨hk2, by omega⟩, if_pos hk2]; rfl
      · rw [if_neg (fun hh => hk2 hh.1), if_neg hk2]

theorem mt_shown (t : List Int) (ht : ∀ k, byte (t.getD k 0)) (hn : t.length ≤ 1000) (hs : Safe t) (hq : (runX t).q = false) : mt t = out (runX t).an := by
  have hr := rel_run t ht hn hs t.length (Nat.le_refl _)
  rw [List.take_of_length_le (Nat.le_refl _)] at hr
  rw [mt_eq]
  exact mt_end hr (runM_inv t ht t.length (Nat.le_refl _)) hq

/-- Bare tells the same, off the text alone (a form feed stands in no text of ours). -/
theorem bare_shown (t : List Int) (h12 : ∀ c ∈ t, c ≠ 12) : bareF t = ((runX t).q, out (runX t).an) := by
  suffices h : ∀ (r : List Int) (st : Bool × List Int) (x : Ix), (∀ c ∈ r, c ≠ 12) → st = (x.q, out x.an) → r.foldl stepB st = ((r.foldl stepX x).q, out (r.foldl stepX x).an) by
    exact h t (false, []) x0 h12 rfl
  intro r
  induction r with
  | nil => intro st x _ h; exact h
  | cons c r ih =>
    intro st x h12 h
    rw [List.foldl_cons, List.foldl_cons]
    refine ih _ _ (fun d hd => h12 d (by simp [hd])) ?_
    have hc : c ≠ 12 := h12 c (by simp)
    subst h
    have hws : ws c = xsp c := by
      simp only [ws, xsp]
      rw [show (c == 12) = false from by simpa using hc]
      cases (c == 9) <;> cases (c == 10) <;> cases (c == 13) <;> cases (c == 32) <;> rfl
    obtain ⟨xi, xj, xs, xl, xq, an⟩ := x
    have e : out (an ++ [(c, xq)]) = out an ++ [shown (c, xq)] := by simp [out]
    by_cases h34 : c = 34
    · subst h34
      cases xq <;> simp [stepB, stepX, w34, show xsp 34 = false from by decide, out, shown]
    · cases xq with
      | true => simp [stepB, stepX, h34, out, shown]
      | false =>
        by_cases hx : xsp c = true
        · simp [stepB, stepX, h34, hws, hx]
        · simp [stepB, stepX, h34, hws, hx, out, shown]

end Go.Proofs.YthfogblmcmlkhaaDoor
