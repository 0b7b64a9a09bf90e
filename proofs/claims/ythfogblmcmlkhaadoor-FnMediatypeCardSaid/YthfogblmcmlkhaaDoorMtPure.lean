/-
  minify.Mediatype as a plain function on lists of bytes (no program in sight).
-/
import Derived.Test.YthfogblmcmlkhaaDoorLower
import Derived.Laws.CopyOwn
namespace Go.Proofs.YthfogblmcmlkhaaDoor
open Go.RowKit
set_option linter.unusedVariables false

def ws (x : Int) : Bool := x == 9 || x == 10 || x == 12 || x == 13 || x == 32
structure St where
  j : Nat
  start : Nat
  ls : Nat
  q : Bool
  b : List Int
def cut (b : List Int) (s e : Nat) : List Int := (b.take e).drop s
def step (i : Nat) (st : St) : St :=
  if st.q = false ∧ ws (st.b.getD i 0) = true then
    if st.start = 0 then { st with j := st.j + i, start := i + 1 }
    else { st with j := st.j + (i - st.start), start := i + 1, b := splice st.b st.j (cut st.b st.start i) }
  else if st.b.getD i 0 = 34 then
    if st.q = false then { st with q := true, b := if i - st.ls < 1024 then lowR st.ls i st.b else st.b }
    else { st with q := false, ls := st.j + (i + 1 - st.start) }
  else st
def runM (t : List Int) : Nat → St
  | 0 => ⟨0, 0, 0, false, t⟩
  | k + 1 => step k (runM t k)
def mtEnd (n : Nat) (st : St) : List Int :=
  if st.start = 0 then lowR st.ls n st.b
  else (lowR st.ls (st.j + (n - st.start)) (splice st.b st.j (cut st.b st.start n))).take (st.j + (n - st.start))
def mt (t : List Int) : List Int := mtEnd t.length (runM t t.length)
theorem mt_eq (t : List Int) : mt t = mtEnd t.length (runM t t.length) := rfl

def byte (x : Int) : Prop := 0 ≤ x ∧ x ≤ 255
structure Inv (n i : Nat) (st : St) : Prop where
  j : st.j ≤ st.start
  z : st.start = 0 → st.j = 0
  jl : st.start ≠ 0 → st.j < st.start
  start : st.start ≤ i
  ls : st.ls ≤ i
  ls2 : st.ls ≤ st.j + (i - st.start)
  len : st.b.length = n
  by_ : ∀ k, byte (st.b.getD k 0)

theorem low_byte {x : Int} (h : byte x) : byte (low x) := by
  unfold byte low at *
  split <;> omega
theorem getD_none {xs : List Int} {k : Nat} (h : xs.length ≤ k) : xs.getD k 0 = 0 := by
  rw [List.getD_eq_getElem?_getD, List.getElem?_eq_none h]; rfl
theorem lowR_byte {xs : List Int} (h : ∀ k, byte (xs.getD k 0)) (o e : Nat) : ∀ k, byte ((lowR o e xs).getD k 0) := by
  intro k
  have hk := h k
  rw [List.getD_eq_getElem?_getD] at hk ⊢
  rw [lowR_get]
  split
  · cases hx : xs[k]? with
    | none => exact ⟨by decide, by decide⟩
    | some v => rw [hx] at hk; exact low_byte hk
  · exact hk
theorem cut_length (b : List Int) (s e : Nat) (h1 : s ≤ e) (h2 : e ≤ b.length) : (cut b s e).length = e - s := by
  unfold cut; simp; omega
theorem cut_get (b : List Int) (s e i : Nat) (h2 : e ≤ b.length) : (cut b s e)[i]? = if s + i < e then b[s + i]? else none := by
  unfold cut
  rw [List.getElem?_drop, List.getElem?_take]
theorem splice_get (L cs : List Int) (o i : Nat) (h : o + cs.length ≤ L.length) : (splice L o cs)[i]? = if o ≤ i ∧ i < o + cs.length then cs[i - o]? else L[i]? := by
  unfold splice
  by_cases h1 : i < o
  · rw [if_neg (by omega), List.getElem?_append_left (by simp; omega), List.getElem?_take, if_pos h1]
  · rw [List.getElem?_append_right (by simp; omega)]
    simp only [List.length_take]
    rw [show min o L.length = o from by omega]
    by_cases h2 : i < o + cs.length
    · rw [if_pos (by omega), List.getElem?_append_left (by omega)]
    · rw [if_neg (by omega), List.getElem?_append_right (by omega), List.getElem?_drop]
      congr 1
      omega
theorem splice_cut_byte {b : List Int} (h : ∀ k, byte (b.getD k 0)) (j s e : Nat) (h1 : s ≤ e) (h2 : e ≤ b.length) (h3 : j ≤ s) : ∀ k, byte ((splice b j (cut b s e)).getD k 0) := by
  intro k
  have hl := cut_length b s e h1 h2
  rw [List.getD_eq_getElem?_getD, splice_get _ _ _ _ (by rw [hl]; omega)]
  split
  · rw [cut_get _ _ _ _ h2]
    split
    · rw [← List.getD_eq_getElem?_getD]; exact h _
    · exact ⟨by decide, by decide⟩
  · rw [← List.getD_eq_getElem?_getD]; exact h _

theorem step_inv {n i : Nat} {st : St} (h : Inv n i st) (hi : i < n) : Inv n (i + 1) (step i st) := by
  obtain ⟨h1, h2, hj, h3, h4, h5, h6, h7⟩ := h
  have hl := cut_length st.b st.start i h3 (by omega)
  unfold step
  split
  · split
    · rename_i h0
      have := h2 h0
      exact ⟨by simp; omega, by simp, by simp; omega, by simp, by simp; omega, by simp; omega, h6, h7⟩
    · refine ⟨by simp; omega, by simp, by simp; omega, by simp, by simp; omega, by simp; omega, ?_, ?_⟩
      · simp only; rw [length_splice]; exact h6; rw [hl]; omega
      · exact splice_cut_byte h7 _ _ _ h3 (by omega) h1
  · split
    · split
      · refine ⟨h1, h2, hj, by simp; omega, by simp; omega, by simp; omega, ?_, ?_⟩
        · simp only
          split
          · rw [lowR_length]; exact h6
          · exact h6
        · simp only
          split
          · exact lowR_byte h7 _ _
          · exact h7
      · exact ⟨h1, h2, hj, by simp; omega, by simp; omega, by simp, h6, h7⟩
    · exact ⟨h1, h2, hj, by omega, by omega, by omega, h6, h7⟩
theorem runM_inv (t : List Int) (ht : ∀ k, byte (t.getD k 0)) : ∀ k, k ≤ t.length → Inv t.length k (runM t k)
  | 0, _ => ⟨Nat.le_refl _, fun _ => rfl, fun h => absurd rfl h, Nat.le_refl _, Nat.le_refl _, Nat.le_refl _, rfl, ht⟩
  | k + 1, h => step_inv (runM_inv t ht k (by omega)) (by omega)

theorem mt_len (t : List Int) (ht : ∀ k, byte (t.getD k 0)) : (mt t).length ≤ t.length := by
  obtain ⟨h1, h2, hj, h3, h4, h5, h6, h7⟩ := runM_inv t ht t.length (Nat.le_refl _)
  rw [mt_eq]
  unfold mtEnd
  split
  · rw [lowR_length, h6]; exact Nat.le_refl _
  · rename_i hs
    have := hj hs
    rw [List.length_take]
    omega

end Go.Proofs.YthfogblmcmlkhaaDoor
