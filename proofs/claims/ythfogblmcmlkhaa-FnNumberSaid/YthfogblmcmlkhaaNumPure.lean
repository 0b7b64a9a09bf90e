/-
  What Number makes of a number: the plain words.
-/
import Derived.Test.YthfogblmcmlkhaaNumInt
import Derived.Test.YthfogblmcmlkhaaDecImpl
namespace Go.Proofs.Ythfogblmcmlkhaa
open Go.RowKit
set_option linter.unusedVariables false

/-- Where the parts of a number lie in N bytes: behind the sign (sl bytes) the mantissa, to n; its point at di (n: there is none); z leading noughts; I and F: the digits ahead of the point and behind it that count; ev: the exponent. -/
structure NumAt (xs : List Int) (N n sl di z : Nat) (neg : Bool) (I F : List Int) (ev : Int) : Prop where
  len : xs.length = N
  nN : n ≤ N
  two : 2 ≤ N
  sl1 : sl ≤ 1
  sign : (sl = 1 → (xs.getD 0 0 = 45 ∧ neg = true) ∨ (xs.getD 0 0 = 43 ∧ neg = false)) ∧ (sl = 0 → neg = false ∧ xs.getD 0 0 ≠ 45 ∧ xs.getD 0 0 ≠ 43)
  dil : sl ≤ di
  dot : di < n → xs.getD di 0 = 46 ∧ di + 1 < n
  nodot : di = n → sl < n
  mant : ∀ k, sl ≤ k → k < n → k ≠ di → 48 ≤ xs.getD k 0 ∧ xs.getD k 0 ≤ 57
  zle : sl + z + I.length = di
  zero : ∀ k, sl ≤ k → k < sl + z → xs.getD k 0 = 48
  zend : sl + z < di → xs.getD (sl + z) 0 ≠ 48
  hI : ∀ d ∈ I, dig d
  hF : ∀ d ∈ F, dig d
  mle : di + 1 + F.length ≤ n ∨ (di = n ∧ F.length = 0)
  mzero : ∀ k, di + 1 + F.length ≤ k → k < n → xs.getD k 0 = 48
  mend : 0 < F.length → xs.getD (di + F.length) 0 ≠ 48
  iat : ∀ k, k < I.length → xs.getD (sl + z + k) 0 = I.getD k 0
  fat : ∀ k, k < F.length → xs.getD (di + 1 + k) 0 = F.getD k 0
  noexp : n = N → ev = 0
  exp : n < N → (xs.getD n 0 = 101 ∨ xs.getD n 0 = 69) ∧ ∃ p q c, N = n + 1 + p + q + c ∧ p ≤ 1 ∧ (p = 1 → xs.getD (n + 1) 0 = 43) ∧ (p = 0 → xs.getD (n + 1) 0 ≠ 43) ∧ q ≤ 1 ∧ (q = 1 → xs.getD (n + 1 + p) 0 = 45) ∧ 1 ≤ c ∧ c ≤ 3 ∧ (∀ k, n + 1 + p + q ≤ k → k < n + 1 + p + q + c → 48 ≤ xs.getD k 0 ∧ xs.getD k 0 ≤ 57) ∧ ev = (if q = 1 then -natAt xs (n + 1 + p + q) c else natAt xs (n + 1 + p + q) c)
  evb : -200 ≤ ev ∧ ev ≤ 200
  evl : (ev < 0 → (n : Int) + 2 + dl (-ev) ≤ N) ∧ (0 < ev → (n : Int) + 1 + dl ev ≤ N) ∧ I.length + F.length ≤ 40

/-- The digits of a number below 1000. -/
def digs (x : Int) : List Int := if x < 10 then [48 + x] else if x < 100 then [48 + x / 10, 48 + x % 10] else [48 + x / 100, 48 + x / 10 % 10, 48 + x % 10]
theorem digs_length (x : Int) : ((digs x).length : Int) = dl x := by
  unfold digs dl
  split
  · rfl
  · split <;> rfl
/-- The digits that count, and the power of ten behind the first point. -/
def sigD (I F : List Int) : List Int := if I = [] then dropZ F else if F = [] then trimF I else I ++ F
def nrm (I F : List Int) : Int := if I = [] then ((dropZ F).length : Int) - F.length else I.length
def posTail (i : Int) : List Int := if 3 ≤ i then 101 :: digs i else List.replicate i.toNat 48
/-- Whether the second form is taken. -/
def second (D F : List Int) (e : Int) : Bool := decide (e < -3) && decide (li e < li (e - D.length)) && decide (F ≠ [])
def body (D F : List Int) (e : Int) : List Int :=
  if (D.length : Int) ≤ e then D ++ posTail (e - D.length)
  else if second D F e = true then 46 :: D ++ 101 :: 45 :: digs (-e)
  else if -li (e - D.length) ≤ e then (if e < 0 then 46 :: List.replicate (-e).toNat 48 ++ D else D.take e.toNat ++ 46 :: D.drop e.toNat)
  else D ++ 101 :: 45 :: digs (-(e - D.length))
/-- Where the second form is there already. -/
def asIs (I F : List Int) (ev : Int) : Bool := !decide (((sigD I F).length : Int) ≤ nrm I F + ev) && second (sigD I F) F (nrm I F + ev) && decide (nrm I F = 0)
def numR (xs : List Int) (neg : Bool) (I F : List Int) (ev : Int) : List Int :=
  if I = [] ∧ F = [] then [48] else if asIs I F ev = true then xs else (if neg = true then [45] else []) ++ body (sigD I F) F (nrm I F + ev)

def NumPost (h cap N : Nat) (out : List Int) (tail : List Value) (w : World) (e : Ending) (w' : World) : Prop :=
  ∃ (a : Nat) (ys : List Int), e = .returned (.slice (some ⟨h, a, none⟩) out.length (cap - a)) ∧ Buf w' h ys tail ∧ Below h w w' ∧ ys.length = N ∧ a + out.length ≤ N ∧ ∀ j, j < out.length → ys.getD (a + j) 0 = out.getD j 0

theorem fr_parts (F : List Int) : ∃ g, g + (dropZ F).length = F.length ∧ (∀ k, k < g → F.getD k 0 = 48) ∧ (∀ k, k < (dropZ F).length → F.getD (g + k) 0 = (dropZ F).getD k 0) ∧ (dropZ F ≠ [] → F.getD g 0 ≠ 48) := by
  obtain ⟨g, h1, h2⟩ := dropZ_split F
  have hl := congrArg List.length h1
  rw [List.length_append, List.length_replicate] at hl
  refine ⟨g, hl.symm, fun k hk => ?_, fun k hk => ?_, fun hne => ?_⟩
  · rw [h1, getD_append_left' (by simpa using hk), getD_rep hk]
  · conv => lhs; rw [h1]
    rw [getD_append_right' (by simp), List.length_replicate, Nat.add_sub_cancel_left]
  · cases hd : dropZ F with
    | nil => exact absurd hd hne
    | cons c r =>
      rw [h1, getD_append_right' (by simp), List.length_replicate, Nat.sub_self, hd]
      exact h2 c r hd
theorem in_parts (I : List Int) : (trimF I).length ≤ I.length ∧ (∀ k, k < (trimF I).length → I.getD k 0 = (trimF I).getD k 0) ∧ (∀ k, (trimF I).length ≤ k → k < I.length → I.getD k 0 = 48) ∧ (0 < (trimF I).length → I.getD ((trimF I).length - 1) 0 ≠ 48) := by
  obtain ⟨r, h1, h2⟩ := trimF_split I
  have hl := congrArg List.length h1
  rw [List.length_append, List.length_replicate] at hl
  have hg : ∀ k, k < (trimF I).length → I.getD k 0 = (trimF I).getD k 0 := fun k hk => by
    conv => lhs; rw [h1]
    rw [getD_append_left' hk]
  refine ⟨by omega, hg, fun k hk hk1 => ?_, fun hp => ?_⟩
  · rw [h1, getD_append_right' hk, getD_rep (by omega)]
  · rw [hg _ (by omega)]
    exact h2 _ (fun e => by rw [e] at hp; simp at hp) (by omega)

/-- No digit ahead of the point: the point lies at st, g noughts behind it, then the digits D. -/
structure KA (xs D : List Int) (N n st di en nn g : Nat) (nx : Int) : Prop where
  e1 : st = di
  e2 : en = st + 1 + g + nn
  e3 : nx = -(g : Int)
  le : en ≤ n
  pt : xs.getD st 0 = 46
  z : ∀ k, k < g → xs.getD (st + 1 + k) 0 = 48
  d : ∀ k, k < nn → xs.getD (st + 1 + g + k) 0 = D.getD k 0
/-- No digit behind the point. -/
structure KB (xs D : List Int) (N n st di en nn : Nat) (nx : Int) : Prop where
  e1 : en = st + nn
  e2 : en ≤ di
  e3 : nx = (di : Int) - st
  le : di ≤ n
  d : ∀ k, k < nn → xs.getD (st + k) 0 = D.getD k 0
/-- Digits on both sides. -/
structure KC (xs D : List Int) (N n st di en nn : Nat) (nx : Int) : Prop where
  e1 : st < di
  e2 : di + 1 < en
  e3 : nx = (di : Int) - st
  e4 : nn + st + 1 = en
  le : en ≤ n
  pt : xs.getD di 0 = 46
  d1 : ∀ k, k < di - st → xs.getD (st + k) 0 = D.getD k 0
  d2 : ∀ k, k < en - di - 1 → xs.getD (di + 1 + k) 0 = D.getD (di - st + k) 0

theorem kinds {xs : List Int} {N n sl di z : Nat} {neg : Bool} {I F : List Int} {ev : Int} (h : NumAt xs N n sl di z neg I F ev) (hz : ¬ (sl + z = di ∧ F.length = 0)) :
    1 ≤ (sigD I F).length ∧ (sigD I F).length ≤ 40 ∧ -40 ≤ nrm I F ∧ nrm I F ≤ 40 ∧
    ((I = [] ∧ F ≠ [] ∧ ∃ g, KA xs (sigD I F) N n (sl + z) di (if F.length = 0 then sl + z + (sigD I F).length else di + 1 + F.length) (sigD I F).length g (nrm I F)) ∨
     (I ≠ [] ∧ F = [] ∧ KB xs (sigD I F) N n (sl + z) di (if F.length = 0 then sl + z + (sigD I F).length else di + 1 + F.length) (sigD I F).length (nrm I F)) ∨
     (I ≠ [] ∧ F ≠ [] ∧ KC xs (sigD I F) N n (sl + z) di (if F.length = 0 then sl + z + (sigD I F).length else di + 1 + F.length) (sigD I F).length (nrm I F))) := by
  have hl := h.evl.2.2
  have hle := h.zle
  have hdn : di ≤ n := by have := h.mle; omega
  by_cases hI : I = []
  · have hI1 : I.length = 0 := by rw [hI]; rfl
    have hF : F.length ≠ 0 := fun e => hz ⟨by omega, e⟩
    have hFn : F ≠ [] := fun e => hF (by rw [e]; rfl)
    obtain ⟨g, g1, g2, g3, g4⟩ := fr_parts F
    have hD : sigD I F = dropZ F := by unfold sigD; rw [if_pos hI]
    have hx : nrm I F = ((dropZ F).length : Int) - F.length := by unfold nrm; rw [if_pos hI]
    have hdi : di < n := by have := h.mle; omega
    have h1 : 1 ≤ (dropZ F).length := by
      rcases Nat.eq_zero_or_pos (dropZ F).length with e | e
      · exfalso
        have h1 := h.mend (by omega)
        have h2 := h.fat (F.length - 1) (by omega)
        rw [show di + 1 + (F.length - 1) = di + F.length from by omega] at h2
        rw [h2] at h1
        exact h1 (g2 _ (by omega))
      · exact e
    rw [hD, hx, if_neg hF]
    refine ⟨h1, by omega, by omega, by omega, .inl ⟨hI, hFn, g, by omega, by omega, by omega, by have := h.mle; omega, ?_, fun k hk => ?_, fun k hk => ?_⟩⟩
    · rw [show sl + z = di from by omega]; exact (h.dot hdi).1
    · rw [show sl + z + 1 + k = di + 1 + k from by omega, h.fat k (by omega)]
      exact g2 k hk
    · rw [show sl + z + 1 + g + k = di + 1 + (g + k) from by omega, h.fat (g + k) (by omega)]
      exact g3 k hk
  · have hI1 : 1 ≤ I.length := by
      rcases Nat.eq_zero_or_pos I.length with e | e
      · exact absurd (List.eq_nil_of_length_eq_zero e) hI
      · exact e
    have hx : nrm I F = (I.length : Int) := by unfold nrm; rw [if_neg hI]
    by_cases hF : F = []
    · have hF0 : F.length = 0 := by rw [hF]; rfl
      have hD : sigD I F = trimF I := by unfold sigD; rw [if_neg hI, if_pos hF]
      obtain ⟨g1, g2, g3, g4⟩ := in_parts I
      have h1 : 1 ≤ (trimF I).length := by
        rcases Nat.eq_zero_or_pos (trimF I).length with e | e
        · exfalso
          have h1 := h.zend (by omega)
          have h2 := h.iat 0 (by omega)
          rw [Nat.add_zero] at h2
          rw [h2] at h1
          exact h1 (g3 0 (by omega) (by omega))
        · exact e
      rw [hD, hx, if_pos hF0]
      refine ⟨h1, by omega, by omega, by omega, .inr (.inl ⟨hI, hF, rfl, by omega, by omega, hdn, fun k hk => ?_⟩)⟩
      rw [h.iat k (by omega)]
      exact g2 k hk
    · have hF0 : F.length ≠ 0 := fun e => hF (List.eq_nil_of_length_eq_zero e)
      have hD : sigD I F = I ++ F := by unfold sigD; rw [if_neg hI, if_neg hF]
      have hdi : di < n := by have := h.mle; omega
      rw [hD, hx, if_neg hF0, List.length_append]
      refine ⟨by omega, by omega, by omega, by omega, .inr (.inr ⟨hI, hF, by omega, by omega, by omega, by omega, by have := h.mle; omega, (h.dot hdi).1, fun k hk => ?_, fun k hk => ?_⟩)⟩
      · rw [h.iat k (by omega), getD_append_left' (by omega)]
      · rw [h.fat k (by omega), getD_append_right' (by omega)]
        congr 1
        omega

/-- How long the tail of a whole number is. -/
def tl (i : Int) : Int := if 3 ≤ i then 1 + dl i else i
/-- There is room for the tail: digits behind the point alone, or on both sides. -/
theorem room_a {nn g : Nat} {nx ev e X : Int} (h1 : ev < 0 → 2 + dl (-ev) ≤ X) (h2 : 0 ≤ X ∧ (0 < ev → 1 + dl ev ≤ X)) (h3 : nx = -(g : Int)) (h4 : nx + ev = e) (h5 : (nn : Int) ≤ e) : tl (e - (nn : Int)) ≤ X := by
  have h6 := h2.2
  unfold tl
  by_cases h0 : 0 < ev
  · have h7 := h6 h0
    unfold dl at h7 ⊢
    split at h7 <;> (try split at h7) <;> split <;> (try split) <;> (try split) <;> omega
  · split
    · exfalso; omega
    · omega

theorem room_b {nn r : Nat} {nx ev e X : Int} (h1 : ev < 0 → 2 + dl (-ev) ≤ X) (h2 : 0 ≤ X ∧ (0 < ev → 1 + dl ev ≤ X)) (h3 : nx = (nn : Int) + (r : Int)) (h4 : nx + ev = e) (h5 : (nn : Int) ≤ e) : tl (e - (nn : Int)) ≤ (r : Int) + X := by
  have h6 := h2.2
  unfold tl
  by_cases h0 : 0 < ev
  · have h7 := h6 h0
    unfold dl at h7 ⊢
    split at h7 <;> (try split at h7) <;> split <;> (try split) <;> (try split) <;> omega
  · unfold dl
    split <;> (try split) <;> (try split) <;> omega
theorem room_c {nn : Nat} {nx ev e X : Int} (h1 : ev < 0 → 2 + dl (-ev) ≤ X) (h2 : 0 ≤ X ∧ (0 < ev → 1 + dl ev ≤ X)) (h3 : nx < (nn : Int)) (h4 : nx + ev = e) (h5 : (nn : Int) ≤ e) : tl (e - (nn : Int)) ≤ X := by
  have h6 := h2.2
  unfold tl
  have h0 : 0 < ev := by omega
  have h7 := h6 h0
  unfold dl at h7 ⊢
  split at h7 <;> (try split at h7) <;> split <;> (try split) <;> (try split) <;> omega

end Go.Proofs.Ythfogblmcmlkhaa
