/-
  Digits laid from the right, and the room that each form of a number needs.
-/
import Derived.Test.YthfogblmcmlkhaaNumPure
import Derived.Test.YthfogblmcmlkhaaNumBuf
namespace Go.Proofs.Ythfogblmcmlkhaa
open Go.RowKit
set_option linter.unusedVariables false

/-- The last k digits of x. -/
def dgs : Nat → Int → List Int
  | 0, _ => []
  | k + 1, x => dgs k (x / 10) ++ [x % 10 + 48]
theorem dgs_length (k : Nat) (x : Int) : (dgs k x).length = k := by
  induction k generalizing x with
  | zero => rfl
  | succ k ih => simp [dgs, ih]
theorem dgs_digs {x : Int} {L : Nat} (h0 : 0 ≤ x) (h1 : x < 1000) (hL : dl x = (L : Int)) : dgs L x = digs x := by
  unfold dl at hL
  unfold digs
  by_cases k1 : x < 10
  · rw [if_pos k1] at hL ⊢
    obtain rfl : L = 1 := by omega
    simp [dgs]; omega
  · rw [if_neg k1] at hL ⊢
    by_cases k2 : x < 100
    · rw [if_pos k2] at hL ⊢
      obtain rfl : L = 2 := by omega
      simp [dgs]; omega
    · rw [if_neg k2] at hL ⊢
      obtain rfl : L = 3 := by omega
      simp [dgs]; omega
theorem dl_pos (x : Int) : 1 ≤ dl x ∧ dl x ≤ 3 := by unfold dl; split <;> (try split) <;> omega
theorem li_pos {x : Int} (h : 0 ≤ x) : li x = dl x := by unfold li; rw [if_neg (by omega)]
theorem li_neg {x : Int} (h : x < 0) : li x = 1 + dl (-x) := by unfold li; rw [if_pos h]
theorem dl_mono {x y : Int} (h : x ≤ y) : dl x ≤ dl y := by unfold dl; split <;> (try split) <;> (try split) <;> (try split) <;> omega
theorem dl_small {x : Int} (h0 : 0 ≤ x) : dl x ≤ x ∨ x = 0 := by unfold dl; split <;> (try split) <;> omega
theorem dl_add {x y : Int} (h0 : 0 ≤ x) (h1 : 0 ≤ y) : dl (x + y) ≤ dl y + x := by
  unfold dl; split <;> (try split) <;> (try split) <;> (try split) <;> omega
theorem body_pos {D F : List Int} {e : Int} (h : 1 ≤ D.length) : 1 ≤ (body D F e).length := by
  unfold body
  split
  · rw [List.length_append]; omega
  · split
    · simp
    · split
      · split
        · simp
        · rw [List.length_append]; simp; omega
      · rw [List.length_append]; omega

/-- The digits of a negative number, byte for byte as the program makes them. -/
theorem neg_rem {q c : Int} (h0 : 0 ≤ q) (h1 : 0 ≤ c) (h2 : c ≤ 9) : (-(10 * q + c)).tmod 10 = -c ∧ (-(10 * q + c)).tdiv 10 = -q := by
  constructor
  · rw [Int.neg_tmod, Int.tmod_eq_emod_of_nonneg (by omega)]; omega
  · rw [Int.neg_tdiv, Int.tdiv_eq_ediv_of_nonneg (by omega)]; omega
theorem neg_byte {c : Int} (h1 : 0 ≤ c) (h2 : c ≤ 9) : IntKind.u8.wrap (-IntKind.u8.wrap (-c)) = c := by
  rw [IntKind.wrap_u8, IntKind.wrap_u8]; omega

theorem tl_nonneg (i : Nat) : 0 ≤ tl (i : Int) := by
  have := dl_pos (i : Int)
  unfold tl; split <;> omega

/-- The bytes L lie at place a. -/
def At (zs : List Int) (a : Nat) (L : List Int) : Prop := ∀ j, j < L.length → zs.getD (a + j) 0 = L.getD j 0
theorem At.nil {zs : List Int} {a : Nat} : At zs a [] := fun j h => absurd h (by simp)
theorem At.append {zs : List Int} {a : Nat} {A B : List Int} (h1 : At zs a A) (h2 : At zs (a + A.length) B) : At zs a (A ++ B) := fun j hj => by
  rw [List.length_append] at hj
  by_cases k : j < A.length
  · rw [getD_append_left' k]; exact h1 j k
  · rw [getD_append_right' (by omega), ← h2 (j - A.length) (by omega)]
    congr 1
    omega
theorem At.cons {zs : List Int} {a : Nat} {c : Int} {L : List Int} (h1 : zs.getD a 0 = c) (h2 : At zs (a + 1) L) : At zs a (c :: L) := fun j hj => by
  cases j with
  | zero => exact h1
  | succ j =>
    rw [List.getD_cons_succ, ← h2 j (by simpa using hj)]
    congr 1
    omega
theorem At.rep {zs : List Int} {a n : Nat} {c : Int} (h : ∀ j, j < n → zs.getD (a + j) 0 = c) : At zs a (List.replicate n c) := fun j hj => by
  rw [List.length_replicate] at hj
  rw [h j hj, List.getD_eq_getElem?_getD, List.getElem?_replicate, if_pos hj]
  rfl
theorem At.of {zs D : List Int} {a n : Nat} (hn : D.length = n) (h : ∀ j, j < n → zs.getD (a + j) 0 = D.getD j 0) : At zs a D := fun j hj => h j (by omega)
theorem At.take {zs D : List Int} {a k : Nat} (hk : k ≤ D.length) (h : ∀ j, j < k → zs.getD (a + j) 0 = D.getD j 0) : At zs a (D.take k) := fun j hj => by
  rw [List.length_take] at hj
  rw [h j (by omega), List.getD_eq_getElem?_getD, List.getD_eq_getElem?_getD, List.getElem?_take, if_pos (by omega)]
theorem At.drop {zs D : List Int} {a k : Nat} (h : ∀ j, k + j < D.length → zs.getD (a + j) 0 = D.getD (k + j) 0) : At zs a (D.drop k) := fun j hj => by
  rw [List.length_drop] at hj
  rw [h j (by omega), List.getD_eq_getElem?_getD, List.getD_eq_getElem?_getD, List.getElem?_drop]
theorem At.same {zs ys L : List Int} {a b : Nat} (h : At ys a L) (hl : a + L.length ≤ b) (hs : ∀ j, j < b → zs.getD j 0 = ys.getD j 0) : At zs a L := fun j hj => by
  rw [hs _ (by omega)]; exact h j hj

/-- Case 2's room. -/
theorem room2_a {g : Nat} {nx ev e X : Int} (h1 : ev < 0 → 2 + dl (-ev) ≤ X) (h2 : 0 ≤ X) (h3 : nx = -(g : Int)) (hg : 0 < g) (hg2 : g ≤ 40) (h4 : nx + ev = e) (h5 : e < -3) : 2 + dl (-e) ≤ (g : Int) + X := by
  by_cases h0 : ev < 0
  · have h6 := h1 h0
    have h7 := dl_add (x := g) (y := -ev) (by omega) (by omega)
    rw [show (g : Int) + -ev = -e from by omega] at h7
    omega
  · have h7 := dl_mono (x := -e) (y := g) (by omega)
    have : dl (g : Int) ≤ g - 2 := by unfold dl; split <;> (try split) <;> omega
    omega
theorem room2_c {nx ev e X : Int} (h1 : ev < 0 → 2 + dl (-ev) ≤ X) (h3 : 0 < nx) (h4 : nx + ev = e) (h5 : e < -3) : 2 + dl (-e) ≤ X := by
  have h6 := h1 (by omega)
  have h7 := dl_mono (x := -e) (y := -ev) (by omega)
  omega
/-- Case 3: a small power. -/
theorem small3 {nn : Nat} {e : Int} (hn : nn ≤ 40) (h1 : (1 : Int) ≤ nn) (h2 : -li (e - (nn : Int)) ≤ e) (h3 : e < 0) : -3 ≤ e ∧ ((nn : Int) - e < 10 → e = -1 ∨ e = -2) := by
  rw [li_neg (by omega)] at h2
  unfold dl at h2
  split at h2
  · omega
  · split at h2 <;> omega
theorem room3_b {nn Z r : Nat} {ev X : Int} (h1 : ev < 0 → 2 + dl (-ev) ≤ X) (hZ : Z ≤ 3) (h2 : nn + Z < 10 → Z ≤ 2) (h3 : nn ≤ r) (h4 : ev = -((Z : Int) + r)) (h5 : 1 ≤ Z) : (Z : Int) + 1 ≤ X := by
  have h6 := h1 (by omega)
  unfold dl at h6
  split at h6
  · omega
  · split at h6 <;> omega
/-- Case 4's room, with the power that isn't the second form's. -/
theorem room4 {nn : Nat} {e : Int} (hn : nn ≤ 40) (h1 : (1 : Int) ≤ nn) (h2 : ¬ -li (e - (nn : Int)) ≤ e) (h3 : e < -3 → ¬ li e < li (e - (nn : Int))) (h4 : e < 0) : dl ((nn : Int) - e) ≤ dl (-e) := by
  rw [li_neg (by omega)] at h2
  rw [show -(e - (nn : Int)) = (nn : Int) - e from by omega] at h2
  by_cases h5 : e < -3
  · have h6 := h3 h5
    rw [li_neg (by omega), li_neg (by omega), show -(e - (nn : Int)) = (nn : Int) - e from by omega] at h6
    omega
  · have h7 := dl_pos ((nn : Int) - e)
    have h8 := dl_pos (-e)
    omega
theorem room4_e {nn : Nat} {e : Int} (h1 : (1 : Int) ≤ nn) (h2 : ¬ -li (e - (nn : Int)) ≤ e) (h0 : ¬ (nn : Int) ≤ e) : e ≤ -3 := by
  rw [li_neg (by omega)] at h2
  have h7 := dl_pos (-(e - (nn : Int)))
  omega
theorem room4_a {nn g : Nat} {nx ev e X : Int} (h1 : ev < 0 → 2 + dl (-ev) ≤ X) (h2 : 0 ≤ X) (h3 : nx = -(g : Int)) (hg2 : g ≤ 40) (h4 : nx + ev = e) (h5 : dl ((nn : Int) - e) ≤ dl (-e)) (h6 : e ≤ -3) : 2 + dl ((nn : Int) - e) ≤ (g : Int) + X := by
  by_cases h0 : ev < 0
  · have h7 := h1 h0
    have h8 := dl_add (x := g) (y := -ev) (by omega) (by omega)
    rw [show (g : Int) + -ev = -e from by omega] at h8
    omega
  · have h7 := dl_mono (x := -e) (y := g) (by omega)
    have : dl (g : Int) ≤ g - 2 := by unfold dl; split <;> (try split) <;> omega
    omega
theorem room4_b {nn : Nat} {nx ev e X : Int} (h1 : ev < 0 → 2 + dl (-ev) ≤ X) (h3 : (nn : Int) ≤ nx) (h4 : nx + ev = e) (h6 : e ≤ -3) : 2 + dl ((nn : Int) - e) ≤ X := by
  have h7 := h1 (by omega)
  have h8 := dl_mono (x := (nn : Int) - e) (y := -ev) (by omega)
  omega
theorem room4_c {nn : Nat} {nx ev e X : Int} (h1 : ev < 0 → 2 + dl (-ev) ≤ X) (h3 : 0 < nx) (h4 : nx + ev = e) (h5 : dl ((nn : Int) - e) ≤ dl (-e)) (h6 : e ≤ -3) : 2 + dl ((nn : Int) - e) ≤ X := by
  have h7 := h1 (by omega)
  have h8 := dl_mono (x := -e) (y := -ev) (by omega)
  omega

end Go.Proofs.Ythfogblmcmlkhaa
