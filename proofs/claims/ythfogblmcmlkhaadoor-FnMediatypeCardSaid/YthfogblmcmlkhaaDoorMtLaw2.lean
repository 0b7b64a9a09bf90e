/-
  The plain law of FnMediatype, its end: the texts that MediaText makes are safe, and what Bare leaves stays.
-/
import Derived.Test.YthfogblmcmlkhaaDoorMtLaw
namespace Go.Proofs.YthfogblmcmlkhaaDoor
open Go.RowKit
set_option linter.unusedVariables false

theorem runX_append (t r : List Int) : runX (t ++ r) = r.foldl stepX (runX t) := by simp [runX, List.foldl_append]
theorem runX_one (t : List Int) (c : Int) : runX (t ++ [c]) = stepX (runX t) c := by rw [runX_append]; rfl

structure IX (x : Ix) : Prop where
  len : x.an.length = x.j + (x.i - x.start)
  start : x.start ≤ x.i
  ls : x.ls ≤ x.an.length
  inq : x.q = false → ∀ k c, x.an[k]? = some (c, true) → k < x.ls
theorem ix_step {x : Ix} (h : IX x) (c : Int) : IX (stepX x c) := by
  obtain ⟨len, hs, hl, inq⟩ := h
  obtain ⟨i, j, start, ls, q, an⟩ := x
  simp only at len hs hl inq
  by_cases hw : q = false ∧ ws c = true
  · have e : stepX ⟨i, j, start, ls, q, an⟩ c = ⟨i + 1, j + (i - start), i + 1, ls, q, an⟩ := by simp only [stepX]; rw [if_pos hw]
    rw [e]
    exact ⟨by simp only; omega, by simp only; omega, hl, inq⟩
  · by_cases hq : c = 34
    · subst hq
      cases q with
      | false =>
        have e : stepX ⟨i, j, start, ls, false, an⟩ 34 = ⟨i + 1, j, start, ls, true, an ++ [(34, true)]⟩ := by simp [stepX, w34]
        rw [e]
        exact ⟨by simp only [List.length_append, List.length_cons, List.length_nil]; omega, by simp only; omega, by simp only [List.length_append]; omega, fun h => by cases h⟩
      | true =>
        have e : stepX ⟨i, j, start, ls, true, an⟩ 34 = ⟨i + 1, j, start, j + (i + 1 - start), false, an ++ [(34, false)]⟩ := by simp [stepX]
        rw [e]
        refine ⟨by simp only [List.length_append, List.length_cons, List.length_nil]; omega, by simp only; omega, by simp only [List.length_append, List.length_cons, List.length_nil]; omega, fun _ k c h => ?_⟩
        have := getElem_of_some h
        simp only [List.length_append, List.length_cons, List.length_nil] at this ⊢
        omega
    · have e : stepX ⟨i, j, start, ls, q, an⟩ c = ⟨i + 1, j, start, ls, q, an ++ [(c, q)]⟩ := by simp only [stepX]; rw [if_neg hw, if_neg hq]
      rw [e]
      refine ⟨by simp only [List.length_append, List.length_cons, List.length_nil]; omega, by simp only; omega, by simp only [List.length_append]; omega, fun hf k c' h => ?_⟩
      rcases snoc_cases h with h | ⟨_, he⟩
      · exact inq hf k c' h
      · injection he with _ he2
        simp only at hf
        rw [hf] at he2
        cases he2
theorem ix_fold (r : List Int) : ∀ {x : Ix}, IX x → IX (r.foldl stepX x) := by
  induction r with
  | nil => intro x h; exact h
  | cons c r ih => intro x h; exact ih (ix_step h c)
theorem ix_run (t : List Int) : IX (runX t) := ix_fold t ⟨rfl, Nat.le_refl _, Nat.le_refl _, fun _ k c h => by simp [x0] at h⟩

theorem start_stays (r : List Int) : ∀ {x : Ix}, x.start ≠ 0 → (r.foldl stepX x).start ≠ 0 := by
  induction r with
  | nil => intro x h; exact h
  | cons c r ih =>
    intro x h
    refine ih ?_
    unfold stepX
    split
    · simp
    · split
      · split <;> exact h
      · exact h
theorem runX_split (t : List Int) (i : Nat) : runX t = (t.drop i).foldl stepX (runX (t.take i)) := by
  rw [← runX_append, List.take_append_drop]

/-- Without white space to take away nothing can go wrong. -/
theorem safe_of_start {t : List Int} (h : (runX t).start = 0) : Safe t := by
  intro i hi _ hq k c hk hj hls
  have hs : (runX (t.take i)).start = 0 := by
    refine Classical.byContradiction fun hn => ?_
    have := start_stays (t.drop i) hn
    rw [← runX_split] at this
    exact this h
  have := (ix_run (t.take i)).inq hq k c hk
  rw [hs] at hls
  omega

/-- What is left once stays as it is. -/
theorem again (t : List Int) : (runX (out (runX t).an)).q = (runX t).q ∧ (runX (out (runX t).an)).j = 0 ∧ (runX (out (runX t).an)).start = 0 ∧ out (runX (out (runX t).an)).an = out (runX t).an := by
  suffices h : ∀ (r t : List Int), t = r.reverse → (runX (out (runX t).an)).q = (runX t).q ∧ (runX (out (runX t).an)).j = 0 ∧ (runX (out (runX t).an)).start = 0 ∧ out (runX (out (runX t).an)).an = out (runX t).an by
    exact h t.reverse t (by simp)
  intro r
  induction r with
  | nil => intro t ht; subst ht; exact ⟨rfl, rfl, rfl, rfl⟩
  | cons c r ih =>
    intro t ht
    obtain ⟨h1, h2, h3, h4⟩ := ih r.reverse rfl
    rw [List.reverse_cons] at ht
    subst ht
    rw [runX_one]
    obtain ⟨x, hx⟩ : ∃ x, runX r.reverse = x := ⟨_, rfl⟩
    rw [hx] at h1 h2 h3 h4 ⊢
    obtain ⟨y, hy⟩ : ∃ y, runX (out x.an) = y := ⟨_, rfl⟩
    rw [hy] at h1 h2 h3 h4
    obtain ⟨i, j, start, ls, q, an⟩ := x
    obtain ⟨yi, yj, ys, yl, yq, yan⟩ := y
    simp only at h1 h2 h3 h4 hy
    subst h1 h2 h3
    have e : ∀ p, out (an ++ [p]) = out an ++ [shown p] := fun p => by simp [out]
    have e' : ∀ p, out (yan ++ [p]) = out yan ++ [shown p] := fun p => by simp [out]
    by_cases hw : yq = false ∧ ws c = true
    · have e1 : stepX ⟨i, j, start, ls, yq, an⟩ c = ⟨i + 1, j + (i - start), i + 1, ls, yq, an⟩ := by simp only [stepX]; rw [if_pos hw]
      rw [e1]
      simp only
      rw [hy]
      exact ⟨rfl, rfl, rfl, h4⟩
    · by_cases hq : c = 34
      · subst hq
        have l34 : low 34 = 34 := by decide
        cases yq with
        | false =>
          have e1 : stepX ⟨i, j, start, ls, false, an⟩ 34 = ⟨i + 1, j, start, ls, true, an ++ [(34, true)]⟩ := by simp [stepX, w34]
          rw [e1]
          simp only
          rw [e, runX_one, hy]
          have e2 : stepX ⟨yi, 0, 0, yl, false, yan⟩ (shown (34, true)) = ⟨yi + 1, 0, 0, yl, true, yan ++ [(34, true)]⟩ := by simp [stepX, w34, shown]
          rw [e2]
          exact ⟨rfl, rfl, rfl, by simp only; rw [e', h4]⟩
        | true =>
          have e1 : stepX ⟨i, j, start, ls, true, an⟩ 34 = ⟨i + 1, j, start, j + (i + 1 - start), false, an ++ [(34, false)]⟩ := by simp [stepX]
          rw [e1]
          simp only
          rw [e, runX_one, hy]
          have e2 : stepX ⟨yi, 0, 0, yl, true, yan⟩ (shown (34, false)) = ⟨yi + 1, 0, 0, 0 + (yi + 1 - 0), false, yan ++ [(34, false)]⟩ := by simp [stepX, shown, l34]
          rw [e2]
          exact ⟨rfl, rfl, rfl, by simp only; rw [e', h4]⟩
      · have e1 : stepX ⟨i, j, start, ls, yq, an⟩ c = ⟨i + 1, j, start, ls, yq, an ++ [(c, yq)]⟩ := by simp only [stepX]; rw [if_neg hw, if_neg hq]
        rw [e1]
        simp only
        rw [e, runX_one, hy]
        cases yq with
        | true =>
          have e2 : stepX ⟨yi, 0, 0, yl, true, yan⟩ (shown (c, true)) = ⟨yi + 1, 0, 0, yl, true, yan ++ [(c, true)]⟩ := by simp [stepX, shown, hq]
          rw [e2]
          exact ⟨rfl, rfl, rfl, by simp only; rw [e', h4]⟩
        | false =>
          have hwc : ws c = false := by simpa using hw
          have hlc : ws (low c) = false := by
            unfold low
            split
            · have h1 : ¬ c + 32 = 9 := by omega
              have h2 : ¬ c + 32 = 10 := by omega
              have h3 : ¬ c + 32 = 12 := by omega
              have h4 : ¬ c + 32 = 13 := by omega
              have h5 : ¬ c + 32 = 32 := by omega
              simp [ws, h1, h2, h3, h4, h5]
            · exact hwc
          have hl34 : low c ≠ 34 := by
            unfold low
            split
            · omega
            · exact hq
          have e2 : stepX ⟨yi, 0, 0, yl, false, yan⟩ (shown (c, false)) = ⟨yi + 1, 0, 0, yl, false, yan ++ [(low c, false)]⟩ := by simp [stepX, shown, hlc, hl34]
          rw [e2]
          refine ⟨rfl, rfl, rfl, ?_⟩
          simp only
          rw [e', h4]
          simp [shown, low_low]

end Go.Proofs.YthfogblmcmlkhaaDoor
