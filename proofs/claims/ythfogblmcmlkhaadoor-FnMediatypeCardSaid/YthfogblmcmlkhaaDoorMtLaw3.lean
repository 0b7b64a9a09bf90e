/-
  The plain law of FnMediatype, whole.
-/
import Derived.Test.YthfogblmcmlkhaaDoorMtLaw2
namespace Go.Proofs.YthfogblmcmlkhaaDoor
open Go.RowKit
set_option linter.unusedVariables false

theorem bytesOf_append (a b : ByteArray) : bytesOf (a ++ b) = bytesOf a ++ bytesOf b := by
  unfold bytesOf
  rw [ByteArray.data_append, Array.toList_append, List.map_append]
theorem bytesOf_strOfNums {xs : List Int} (h : ∀ x ∈ xs, byte x) : bytesOf (strOfNums xs) = xs := by
  unfold bytesOf strOfNums
  simp only [List.map_map]
  conv => rhs; rw [← List.map_id xs]
  refine List.map_congr_left fun x hx => ?_
  obtain ⟨h0, h1⟩ := h x hx
  simp only [Function.comp, id, UInt8.toNat_ofNat']
  omega

/-! Quotes: how many, and whether one is open. -/
def tog (q : Bool) (c : Int) : Bool := if c = 34 then !q else q
theorem q_fold (r : List Int) : ∀ x : Ix, (r.foldl stepX x).q = r.foldl tog x.q := by
  induction r with
  | nil => intro x; rfl
  | cons c r ih =>
    intro x
    rw [List.foldl_cons, List.foldl_cons, ih]
    congr 1
    obtain ⟨i, j, start, ls, q, an⟩ := x
    unfold stepX tog
    by_cases h : c = 34
    · subst h
      cases q <;> simp [w34]
    · cases q <;> simp [h] <;> split <;> rfl
def nq (t : List Int) : Nat := (t.filter (fun c => c == 34)).length
theorem nq_append (a b : List Int) : nq (a ++ b) = nq a + nq b := by simp [nq]
theorem flagged (t : List Int) : ((runX t).q = true → 1 ≤ nq t) ∧ ((runX t).q = false → (∃ (k : Nat) (c : Int), (runX t).an[k]? = some (c, true)) → 2 ≤ nq t) := by
  suffices h : ∀ (r t : List Int), t = r.reverse → ((runX t).q = true → 1 ≤ nq t) ∧ ((runX t).q = false → (∃ (k : Nat) (c : Int), (runX t).an[k]? = some (c, true)) → 2 ≤ nq t) by
    exact h t.reverse t (by simp)
  intro r
  induction r with
  | nil =>
    intro t ht
    subst ht
    exact ⟨fun h => by simp [runX, x0] at h, fun _ ⟨k, c, h⟩ => by simp [runX, x0] at h⟩
  | cons c r ih =>
    intro t ht
    rw [List.reverse_cons] at ht
    subst ht
    obtain ⟨h1, h2⟩ := ih r.reverse rfl
    rw [runX_one, nq_append]
    obtain ⟨x, hx⟩ : ∃ x, runX r.reverse = x := ⟨_, rfl⟩
    rw [hx] at h1 h2 ⊢
    obtain ⟨i, j, start, ls, q, an⟩ := x
    simp only at h1 h2
    by_cases hw : q = false ∧ ws c = true
    · have e : stepX ⟨i, j, start, ls, q, an⟩ c = ⟨i + 1, j + (i - start), i + 1, ls, q, an⟩ := by simp only [stepX]; rw [if_pos hw]
      rw [e]
      exact ⟨fun h => by have := h1 h; omega, fun h h' => by have := h2 h h'; omega⟩
    · by_cases hq : c = 34
      · subst hq
        have e1 : nq [34] = 1 := by decide
        cases q with
        | false =>
          have e : stepX ⟨i, j, start, ls, false, an⟩ 34 = ⟨i + 1, j, start, ls, true, an ++ [(34, true)]⟩ := by simp [stepX, w34]
          rw [e]
          exact ⟨fun h => by omega, (fun h => by cases h)⟩
        | true =>
          have e : stepX ⟨i, j, start, ls, true, an⟩ 34 = ⟨i + 1, j, start, j + (i + 1 - start), false, an ++ [(34, false)]⟩ := by simp [stepX]
          rw [e]
          exact ⟨(fun h => by cases h), fun _ _ => by have := h1 rfl; omega⟩
      · have e : stepX ⟨i, j, start, ls, q, an⟩ c = ⟨i + 1, j, start, ls, q, an ++ [(c, q)]⟩ := by simp only [stepX]; rw [if_neg hw, if_neg hq]
        rw [e]
        refine ⟨fun h => by have := h1 h; omega, fun h ⟨k, c', h'⟩ => ?_⟩
        simp only at h
        rcases snoc_cases h' with h' | ⟨_, he⟩
        · have := h2 h ⟨k, c', h'⟩; omega
        · injection he with _ he2
          rw [h] at he2
          cases he2
theorem safe_few {t : List Int} (h : nq t ≤ 2) : Safe t := by
  intro i hi h34 hq k c hk _ _
  exfalso
  have h1 := (flagged (t.take i)).2 hq ⟨k, c, hk⟩
  have h2 : nq t = nq (t.take i) + nq (t.drop i) := by rw [← nq_append, List.take_append_drop]
  have h3 : 1 ≤ nq (t.drop i) := by
    rw [List.drop_eq_getElem_cons hi]
    rw [List.getD_eq_getElem?_getD, List.getElem?_eq_getElem hi] at h34
    simp only [Option.getD_some] at h34
    simp [nq, h34]
  omega

/-! Behind a text in quotes: its great letters stand far from its end, or all is in its place. -/
structure Far (x : Ix) : Prop where
  up : ∀ k c, x.an[k]? = some (c, true) → low c ≠ c → k + 7 ≤ x.ls
  near : x.start - x.j ≤ 4 ∨ x.ls ≤ x.j
theorem okX_far {x : Ix} (h : Far x) (hI : IX x) (hq : x.q = false) : okX x := by
  intro k c hk hj hl
  refine Classical.byContradiction fun hc => ?_
  have h1 := h.up k c hk hc
  have h2 := hI.inq hq k c hk
  rcases h.near with h3 | h3 <;> omega
theorem far_step {x : Ix} (h : Far x) (hI : IX x) (hq : x.q = false) (c : Int) (hc : c ≠ 34) : Far (stepX x c) ∧ (stepX x c).q = false := by
  obtain ⟨up, near⟩ := h
  obtain ⟨len, hs, hl, inq⟩ := hI
  obtain ⟨i, j, start, ls, q, an⟩ := x
  simp only at hq
  subst hq
  by_cases hw : ws c = true
  · have e : stepX ⟨i, j, start, ls, false, an⟩ c = ⟨i + 1, j + (i - start), i + 1, ls, false, an⟩ := by simp [stepX, hw]
    rw [e]
    exact ⟨⟨up, .inr (by simp only at len hl ⊢; omega)⟩, rfl⟩
  · have e : stepX ⟨i, j, start, ls, false, an⟩ c = ⟨i + 1, j, start, ls, false, an ++ [(c, false)]⟩ := by simp [stepX, hw, hc]
    rw [e]
    refine ⟨⟨fun k c' h hc' => ?_, near⟩, rfl⟩
    rcases snoc_cases h with h | ⟨_, he⟩
    · exact up k c' h hc'
    · injection he with _ he2
      cases he2
theorem far_fold (r : List Int) : ∀ {x : Ix}, Far x → IX x → x.q = false → (∀ c ∈ r, c ≠ 34) → Far (r.foldl stepX x) := by
  induction r with
  | nil => intro x h _ _ _; exact h
  | cons c r ih =>
    intro x h hI hq hr
    obtain ⟨h1, h2⟩ := far_step h hI hq c (hr c (by simp))
    exact ih h1 (ix_step hI c) h2 (fun d hd => hr d (by simp [hd]))
theorem nq_zero {r : List Int} (h : nq r = 0) : ∀ c ∈ r, c ≠ 34 := by
  intro c hc e
  have : r.filter (fun c => c == 34) = [] := List.eq_nil_of_length_eq_zero h
  rw [List.filter_eq_nil_iff] at this
  exact this c hc (by simp [e])
theorem nq_take (t : List Int) (i : Nat) (hi : i < t.length) (h34 : t.getD i 0 = 34) : nq (t.take i) + 1 ≤ nq t := by
  have h2 : nq t = nq (t.take i) + nq (t.drop i) := by rw [← nq_append, List.take_append_drop]
  have h3 : 1 ≤ nq (t.drop i) := by
    rw [List.drop_eq_getElem_cons hi]
    rw [List.getD_eq_getElem?_getD, List.getElem?_eq_getElem hi] at h34
    simp only [Option.getD_some] at h34
    simp [nq, h34]
  omega
/-- One quote more, one open. -/
theorem tog_one (r : List Int) : ∀ q : Bool, nq r = 1 → r.foldl tog q = !q := by
  induction r with
  | nil => intro q h; simp [nq] at h
  | cons c r ih =>
    intro q h
    by_cases hc : c = 34
    · subst hc
      have h0 : nq r = 0 := by simp [nq] at h ⊢; exact h
      have hz := nq_zero h0
      have : ∀ (l : List Int) (b : Bool), (∀ c ∈ l, c ≠ 34) → l.foldl tog b = b := by
        intro l
        induction l with
        | nil => intro b _; rfl
        | cons d l ihl =>
          intro b hl
          rw [List.foldl_cons, ihl _ (fun c hc => hl c (by simp [hc]))]
          unfold tog
          rw [if_neg (hl d (by simp))]
      rw [List.foldl_cons, this r _ hz]
      rfl
    · have h1 : nq r = 1 := by simpa [nq, hc] using h
      rw [List.foldl_cons, ih _ h1]
      unfold tog
      rw [if_neg hc]
theorem safe_two {A B : List Int} (hA : nq A ≤ 2) (hB : nq B ≤ 2) (hF : Far (runX A)) (hq : (runX A).q = false) : Safe (A ++ B) := by
  intro i hi h34 hqi
  by_cases hl : i < A.length
  · have e : (A ++ B).take i = A.take i := List.take_append_of_le_length (by omega)
    rw [e] at hqi ⊢
    rw [List.getD_eq_getElem?_getD, List.getElem?_append_left hl, ← List.getD_eq_getElem?_getD] at h34
    exact safe_few hA i hl h34 hqi
  · obtain ⟨m, hm⟩ : ∃ m, i = A.length + m := ⟨i - A.length, by omega⟩
    subst hm
    have hmB : m < B.length := by simp at hi; omega
    have e : (A ++ B).take (A.length + m) = A ++ B.take m := by
      rw [List.take_append]
      simp
      rw [List.take_of_length_le (by omega)]
    rw [List.getD_eq_getElem?_getD, List.getElem?_append_right (by omega), show A.length + m - A.length = m from by omega, ← List.getD_eq_getElem?_getD] at h34
    rw [e, runX_append] at hqi ⊢
    have hn := nq_take B m hmB h34
    have h0 : nq (B.take m) = 0 := by
      rcases Nat.lt_or_ge (nq (B.take m)) 1 with h | h
      · omega
      · have h1 : nq (B.take m) = 1 := by omega
        rw [q_fold, tog_one _ _ h1, hq] at hqi
        cases hqi
    exact okX_far (far_fold _ hF (ix_run A) hq (nq_zero h0)) (ix_fold _ (ix_run A)) hqi

/-! The texts. -/
def headsL : List (List Int) := heads.map bytesOf
def gapsL : List (List Int) := gaps.map bytesOf
def keysL : List (List Int) := keys.map bytesOf
def valsL : List (List Int) := vals.map bytesOf
def par (a b k v : List Int) : List Int := a ++ [59] ++ b ++ k ++ [61] ++ v
def farB (x : Ix) : Bool := decide (x.start - x.j ≤ 4) && (List.range x.an.length).all fun k => match x.an[k]? with
  | some (c, true) => decide (low c = c) || decide (k + 7 ≤ x.ls)
  | _ => true
theorem far_of {x : Ix} (h : farB x = true) : Far x := by
  simp only [farB, Bool.and_eq_true, decide_eq_true_eq] at h
  refine ⟨fun k c hk hc => ?_, .inl h.1⟩
  have := List.all_eq_true.1 h.2 k (List.mem_range.2 (getElem_of_some hk))
  rw [hk] at this
  simp only [Bool.or_eq_true, decide_eq_true_eq] at this
  exact this.resolve_left hc
theorem one_far : (headsL.all fun h => gapsL.all fun a => gapsL.all fun b => keysL.all fun k => valsL.all fun v => farB (runX (h ++ par a b k v))) = true := by decide +kernel
theorem par_fits : (gapsL.all fun a => gapsL.all fun b => keysL.all fun k => valsL.all fun v => decide (nq (par a b k v) ≤ 2) && ((par a b k v).foldl tog false == false) && (par a b k v).all fun c => decide (c ≠ 12)) = true := by decide +kernel
theorem head_fits : (headsL.all fun h => decide (nq h = 0) && (h.foldl tog false == false) && (h.all fun c => decide (c ≠ 12)) && decide (0 < (runX h).an.length)) = true := by decide +kernel

theorem mem_all {α : Type} {l : List α} {f : α → Bool} (h : l.all f = true) {a : α} (ha : a ∈ l) : f a = true := List.all_eq_true.1 h a ha
theorem param_list {p : ByteArray} (h : Param p) : ∃ a ∈ gapsL, ∃ b ∈ gapsL, ∃ k ∈ keysL, ∃ v ∈ valsL, bytesOf p = par a b k v := by
  obtain ⟨a, ha, b, hb, k, hk, v, hv, rfl⟩ := h
  refine ⟨_, List.mem_map_of_mem ha, _, List.mem_map_of_mem hb, _, List.mem_map_of_mem hk, _, List.mem_map_of_mem hv, ?_⟩
  simp only [bytesOf_append]
  rfl
theorem an_mem (t : List Int) : ∀ p ∈ (runX t).an, p.1 ∈ t := by
  suffices h : ∀ (r : List Int) (x : Ix), ∀ p ∈ (r.foldl stepX x).an, p ∈ x.an ∨ p.1 ∈ r by
    intro p hp
    rcases h t x0 p hp with h1 | h1
    · simp [x0] at h1
    · exact h1
  intro r
  induction r with
  | nil => intro x p hp; exact .inl hp
  | cons c r ih =>
    intro x p hp
    rcases ih _ p hp with h1 | h1
    · unfold stepX at h1
      split at h1
      · exact .inl h1
      · rename_i hw
        split at h1
        · rename_i h34
          split at h1
          · simp only [List.mem_append, List.mem_singleton] at h1
            rcases h1 with h1 | h1
            · exact .inl h1
            · exact .inr (by rw [h1, h34]; simp)
          · simp only [List.mem_append, List.mem_singleton] at h1
            rcases h1 with h1 | h1
            · exact .inl h1
            · exact .inr (by rw [h1, h34]; simp)
        · simp only [List.mem_append, List.mem_singleton] at h1
          rcases h1 with h1 | h1
          · exact .inl h1
          · exact .inr (by rw [h1]; simp)
    · exact .inr (by simp [h1])
structure Fits (t : List Int) : Prop where
  safe : Safe t
  q : (runX t).q = false
  no12 : ∀ c ∈ t, c ≠ 12
  some_ : 0 < (runX t).an.length
theorem an_grows (r : List Int) : ∀ x : Ix, x.an.length ≤ (r.foldl stepX x).an.length := by
  induction r with
  | nil => intro x; exact Nat.le_refl _
  | cons c r ih =>
    intro x
    refine Nat.le_trans ?_ (ih _)
    unfold stepX
    split
    · exact Nat.le_refl _
    · split
      · split <;> simp
      · simp
theorem fits {n : Nat} {s : ByteArray} (h : MediaIs n s) (hn : n ≤ 2) : Fits (bytesOf s) := by
  have head : ∀ s, s ∈ heads → nq (bytesOf s) = 0 ∧ (bytesOf s).foldl tog false = false ∧ (∀ c ∈ bytesOf s, c ≠ 12) ∧ 0 < (runX (bytesOf s)).an.length := by
    intro s hs
    have h0 := mem_all head_fits (List.mem_map_of_mem (f := bytesOf) hs)
    simp only [Bool.and_eq_true, decide_eq_true_eq, beq_iff_eq, List.all_eq_true] at h0
    exact ⟨h0.1.1.1, h0.1.1.2, h0.1.2, h0.2⟩
  have parm : ∀ p, Param p → nq (bytesOf p) ≤ 2 ∧ (bytesOf p).foldl tog false = false ∧ (∀ c ∈ bytesOf p, c ≠ 12) := by
    intro p hp
    obtain ⟨a, ha, b, hb, k, hk, v, hv, e⟩ := param_list hp
    have h0 := mem_all (mem_all (mem_all (mem_all par_fits ha) hb) hk) hv
    rw [e]
    simp only [Bool.and_eq_true, decide_eq_true_eq, beq_iff_eq, List.all_eq_true] at h0
    exact ⟨h0.1.1, h0.1.2, h0.2⟩
  match n, hn, h with
  | 0, _, h =>
    obtain ⟨h1, h2, h3, h4⟩ := head s h
    exact ⟨safe_few (by omega), by rw [runX, q_fold]; exact h2, h3, h4⟩
  | 1, _, ⟨t, p, ht, hp, e⟩ =>
    obtain ⟨h1, h2, h3, h4⟩ := head t ht
    obtain ⟨g1, g2, g3⟩ := parm p hp
    subst e
    rw [bytesOf_append]
    refine ⟨safe_few (by rw [nq_append]; omega), ?_, ?_, ?_⟩
    · rw [runX, q_fold, List.foldl_append, show x0.q = false from rfl, h2, g2]
    · intro c hc
      rcases List.mem_append.1 hc with hc | hc
      · exact h3 c hc
      · exact g3 c hc
    · rw [runX_append]
      exact Nat.lt_of_lt_of_le h4 (an_grows _ _)
  | 2, _, ⟨t, p, ⟨t0, p0, ht0, hp0, e0⟩, hp, e⟩ =>
    obtain ⟨h1, h2, h3, h4⟩ := head t0 ht0
    obtain ⟨f1, f2, f3⟩ := parm p0 hp0
    obtain ⟨g1, g2, g3⟩ := parm p hp
    subst e e0
    rw [bytesOf_append, bytesOf_append]
    have hqA : (runX (bytesOf t0 ++ bytesOf p0)).q = false := by rw [runX, q_fold, List.foldl_append, show x0.q = false from rfl, h2, f2]
    have hfar : Far (runX (bytesOf t0 ++ bytesOf p0)) := by
      obtain ⟨a, ha, b, hb, k, hk, v, hv, e⟩ := param_list hp0
      rw [e]
      exact far_of (mem_all (mem_all (mem_all (mem_all (mem_all one_far (List.mem_map_of_mem (f := bytesOf) ht0)) ha) hb) hk) hv)
    refine ⟨safe_two (by rw [nq_append]; omega) g1 hfar hqA, ?_, ?_, ?_⟩
    · rw [runX_append, q_fold, hqA, g2]
    · intro c hc
      rcases List.mem_append.1 hc with hc | hc
      · rcases List.mem_append.1 hc with hc | hc
        · exact h3 c hc
        · exact f3 c hc
      · exact g3 c hc
    · rw [runX_append, runX_append]
      exact Nat.lt_of_lt_of_le h4 (Nat.le_trans (an_grows _ _) (an_grows _ _))

theorem media_law : MediaLaw := by
  intro n s h hn
  have hsz := MediaIs.size h
  obtain ⟨hsafe, hq, h12, hsome⟩ := fits h hn
  have hl := bytesOf_length s
  have hb := bytesOf_byte s
  have e1 := mt_shown (bytesOf s) hb (by omega) hsafe hq
  have e2 := bare_shown (bytesOf s) h12
  obtain ⟨a1, a2, a3, a4⟩ := again (bytesOf s)
  have hmb : ∀ x ∈ mt (bytesOf s), byte x := by
    intro x hx
    rw [e1] at hx
    obtain ⟨p, hp, rfl⟩ := List.mem_map.1 hx
    have hmem := an_mem (bytesOf s) p hp
    obtain ⟨k, hk, hke⟩ := List.getElem_of_mem hmem
    have hbk := hb k
    rw [List.getD_eq_getElem?_getD, List.getElem?_eq_getElem hk] at hbk
    simp only [Option.getD_some] at hbk
    rw [hke] at hbk
    unfold shown
    split
    · exact hbk
    · exact low_byte hbk
  have hml := mt_len (bytesOf s) hb
  have e3 : bytesOf (mtS s) = mt (bytesOf s) := bytesOf_strOfNums hmb
  have e4 : mt (mt (bytesOf s)) = mt (bytesOf s) := by
    have hb2 : ∀ k, byte ((mt (bytesOf s)).getD k 0) := by
      rw [← e3]; exact bytesOf_byte _
    rw [mt_shown (mt (bytesOf s)) hb2 (by omega) (by rw [e1]; exact safe_of_start a3) (by rw [e1, a1, hq]), e1, a4]
  have hms : (mtS s).size = (mt (bytesOf s)).length := strOfNums_size _
  have hlen : (mt (bytesOf s)).length = (runX (bytesOf s)).an.length := by rw [e1]; simp [out]
  have hgr : 0 < s.size := by
    rcases Nat.eq_zero_or_pos s.size with h0 | h0
    · omega
    · exact h0
  refine ⟨hgr, by omega, ?_, ?_, by omega, by omega⟩
  · unfold mtS bareS
    rw [e1, e2]
  · show strOfNums (mt (bytesOf (mtS s))) = strOfNums (mt (bytesOf s))
    rw [e3, e4]

end Go.Proofs.YthfogblmcmlkhaaDoor
