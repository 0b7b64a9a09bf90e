/-
  What Number makes of a number is a number again, of the same value, and stays.
-/
import Derived.Test.YthfogblmcmlkhaaNumLaw
import Derived.Test.YthfogblmcmlkhaaNumText
namespace Go.Proofs.Ythfogblmcmlkhaa
open Go.RowKit
set_option linter.unusedVariables false

theorem digs_dig {x : Int} (h0 : 0 ≤ x) (h1 : x < 1000) : ∀ d ∈ digs x, dig d := by
  intro d hd
  unfold digs at hd
  unfold dig
  split at hd
  · simp at hd; omega
  · split at hd
    · simp at hd; omega
    · simp at hd; omega
theorem digs_num {x : Int} (h0 : 0 ≤ x) (h1 : x < 1000) : numV (digs x) = x := by
  unfold digs numV
  split
  · simp [natAt]; omega
  · split
    · simp [natAt]; omega
    · simp [natAt]; omega
theorem digs_len {x : Int} : 1 ≤ (digs x).length ∧ (digs x).length ≤ 3 := by
  have h1 := digs_length x
  have h2 := dl_pos x
  omega
theorem ex_none : Ex [] 0 := ⟨fun _ => rfl, fun h => absurd rfl h, by omega, by omega, by omega⟩
theorem ex_pos {i : Int} (h0 : 0 ≤ i) (h1 : i ≤ 200) : Ex (101 :: digs i) i :=
  ⟨fun h => absurd h (by simp), fun _ => ⟨101, [], digs i, rfl, .inl rfl, .inl rfl, digs_len.1, digs_len.2, digs_dig h0 (by omega), by rw [if_neg (by decide), digs_num h0 (by omega)]⟩, by omega, by omega, fun _ => by have := digs_length i; simp; omega⟩
theorem ex_neg {i : Int} (h0 : 0 ≤ i) (h1 : i ≤ 200) : Ex (101 :: 45 :: digs i) (-i) :=
  ⟨fun h => absurd h (by simp), fun _ => ⟨101, [45], digs i, rfl, .inl rfl, .inr (.inr rfl), digs_len.1, digs_len.2, digs_dig h0 (by omega), by rw [if_pos rfl, digs_num h0 (by omega)]⟩, by omega, fun _ => by have := digs_length i; rw [Int.neg_neg]; simp; omega, fun h => by omega⟩

theorem Sig.drop {D : List Int} (h : Sig D) : dropZ D = D := by
  have := dropZ_of (r := []) h.ne h.fst
  rwa [List.append_nil] at this
theorem Sig.trim {D : List Int} (h : Sig D) : trimF D = D := by
  have := trimF_of (r := []) h.ne h.lst
  rwa [List.nil_append] at this
theorem Sig.ne_nil {D : List Int} (h : Sig D) : D ≠ [] := fun e => by have := h.ne; rw [e] at this; simp at this
theorem trimF_rep {D : List Int} (h : Sig D) (r : Nat) : trimF (D ++ List.replicate r 48) = D := by
  unfold trimF
  rw [List.reverse_append, List.reverse_replicate, dropZ_rep]
  have := h.trim
  unfold trimF at this
  exact this
theorem dropZ_none : dropZ ([] : List Int) = [] := rfl
theorem trimF_none : trimF ([] : List Int) = [] := rfl
theorem second_small {D F : List Int} {e : Int} (h : -3 ≤ e) : second D F e = false := by
  unfold second
  rw [decide_eq_false (by omega)]
  rfl

/-- The text that is laid is a number again: the same digits, the same power. -/
theorem body_again {D F : List Int} {e : Int} (hS : Sig D) (hn : D.length ≤ 18) (h0 : -140 ≤ e) (h1 : e ≤ 140) :
    ∃ I' F' x' ev', body D F e = I' ++ (if F' = [] then [] else 46 :: F') ++ x' ∧ (∀ d ∈ I', dig d) ∧ (∀ d ∈ F', dig d) ∧ (F' = [] → I' ≠ []) ∧ Ex x' ev' ∧ I'.length + F'.length ≤ 40 ∧
      ¬ (dropZ I' = [] ∧ trimF F' = []) ∧ sigD (dropZ I') (trimF F') = D ∧ nrm (dropZ I') (trimF F') + ev' = e ∧ body D (trimF F') e = body D F e := by
  have hne := hS.ne
  have hnn := hS.ne_nil
  by_cases c1 : (D.length : Int) ≤ e
  · have hb : ∀ G, body D G e = D ++ posTail (e - D.length) := fun G => by unfold body; rw [if_pos c1]
    by_cases c2 : 3 ≤ e - D.length
    · refine ⟨D, [], 101 :: digs (e - D.length), e - D.length, ?_, hS.dg, fun d h => absurd h (by simp), fun _ => hnn, ex_pos (by omega) (by omega), by simp; omega, ?_, ?_, ?_, ?_⟩
      · rw [hb, if_pos rfl]
        unfold posTail
        rw [if_pos c2, List.append_nil]
      · rw [hS.drop]; exact fun h => hnn h.1
      · rw [hS.drop, trimF_none]; unfold sigD; rw [if_neg hnn, if_pos rfl, hS.trim]
      · rw [hS.drop]; unfold nrm; rw [if_neg hnn]; omega
      · rw [hb, hb]
    · obtain ⟨r, hr⟩ : ∃ r : Nat, e - (D.length : Int) = r := ⟨(e - (D.length : Int)).toNat, by omega⟩
      refine ⟨D ++ List.replicate r 48, [], [], 0, ?_, ?_, fun d h => absurd h (by simp), fun _ h => by simp at h; exact hnn h.1, ex_none, by simp; omega, ?_, ?_, ?_, ?_⟩
      · rw [hb, if_pos rfl]
        unfold posTail
        rw [if_neg c2, List.append_nil, List.append_nil, hr]
        simp
      · intro d hd
        rcases List.mem_append.1 hd with hd | hd
        · exact hS.dg d hd
        · rw [List.eq_of_mem_replicate hd]; unfold dig; omega
      · rw [dropZ_of hne hS.fst]; exact fun h => by have := h.1; simp at this; exact hnn this.1
      · rw [dropZ_of hne hS.fst, trimF_none]
        unfold sigD
        rw [if_neg (fun h => by simp at h; exact hnn h.1), if_pos rfl, trimF_rep hS]
      · rw [dropZ_of hne hS.fst]
        unfold nrm
        rw [if_neg (fun h => by simp at h; exact hnn h.1), List.length_append, List.length_replicate]
        omega
      · rw [hb, hb]
  · by_cases c2 : second D F e = true
    · have c2' := c2
      unfold second at c2'
      simp only [Bool.and_eq_true, decide_eq_true_eq] at c2'
      obtain ⟨⟨k1, k2⟩, k3⟩ := c2'
      have hb : ∀ G, second D G e = true → body D G e = 46 :: D ++ 101 :: 45 :: digs (-e) := fun G hG => by unfold body; rw [if_neg c1, if_pos hG]
      have c3 : second D D e = true := by
        unfold second
        simp only [Bool.and_eq_true, decide_eq_true_eq]
        exact ⟨⟨k1, k2⟩, hnn⟩
      refine ⟨[], D, 101 :: 45 :: digs (-e), e, ?_, fun d h => absurd h (by simp), hS.dg, fun h => absurd h hnn, ?_, by simp; omega, ?_, ?_, ?_, ?_⟩
      · rw [hb F c2, if_neg hnn]; rfl
      · have := ex_neg (i := -e) (by omega) (by omega)
        rwa [Int.neg_neg] at this
      · rw [hS.trim]; exact fun h => hnn h.2
      · rw [hS.trim, dropZ_none]; unfold sigD; rw [if_pos rfl, hS.drop]
      · rw [hS.trim, dropZ_none]; unfold nrm; rw [if_pos rfl, hS.drop]; omega
      · rw [hS.trim, hb D c3, hb F c2]
    · have c2f : second D F e = false := by simpa using c2
      by_cases c3 : -li (e - D.length) ≤ e
      · have h3 : -3 ≤ e := by
          by_cases hneg : e < 0
          · exact (small3 (by omega) (by omega) c3 hneg).1
          · omega
        have hb : ∀ G, body D G e = (if e < 0 then 46 :: List.replicate (-e).toNat 48 ++ D else D.take e.toNat ++ 46 :: D.drop e.toNat) := fun G => by
          unfold body
          rw [if_neg c1, if_neg (by rw [second_small h3]; decide), if_pos c3]
        by_cases c4 : e < 0
        · obtain ⟨k, hk⟩ : ∃ k : Nat, -e = k := ⟨(-e).toNat, by omega⟩
          have hF : (List.replicate k (48 : Int) ++ D) ≠ [] := fun h => by simp at h; exact hnn h.2
          have hT : trimF (List.replicate k 48 ++ D) = List.replicate k 48 ++ D := trimF_of hne hS.lst
          have hD : dropZ (List.replicate k 48 ++ D) = D := by rw [dropZ_rep, hS.drop]
          refine ⟨[], List.replicate k 48 ++ D, [], 0, ?_, fun d h => absurd h (by simp), ?_, fun h => absurd h hF, ex_none, by simp; omega, ?_, ?_, ?_, ?_⟩
          · rw [hb, if_pos c4, if_neg hF, hk]
            simp
          · intro d hd
            rcases List.mem_append.1 hd with hd | hd
            · rw [List.eq_of_mem_replicate hd]; unfold dig; omega
            · exact hS.dg d hd
          · rw [hT]; exact fun h => hF h.2
          · rw [hT, dropZ_none]; unfold sigD; rw [if_pos rfl, hD]
          · rw [hT, dropZ_none]; unfold nrm; rw [if_pos rfl, hD, List.length_append, List.length_replicate]; omega
          · rw [hb, hb]
        · obtain ⟨k, hk⟩ : ∃ k : Nat, e = k := ⟨e.toNat, by omega⟩
          have hkt : e.toNat = k := by omega
          have hdl : (D.drop k).length = D.length - k := List.length_drop
          have htl : (D.take k).length = k := by rw [List.length_take]; omega
          have hF : D.drop k ≠ [] := fun h => by rw [h] at hdl; simp at hdl; omega
          have hlast : (D.drop k).getD ((D.drop k).length - 1) 0 ≠ 48 := by
            rw [hdl, List.getD_eq_getElem?_getD, List.getElem?_drop, ← List.getD_eq_getElem?_getD, show k + (D.length - k - 1) = D.length - 1 from by omega]
            exact hS.lst
          have hT : trimF (D.drop k) = D.drop k := by
            have := trimF_of (r := []) (D := D.drop k) (by omega) hlast
            rwa [List.nil_append] at this
          have hD0 : dropZ (D.take k) = D.take k := by
            by_cases hk0 : k = 0
            · subst hk0; rfl
            · have := dropZ_of (D := D.take k) (r := []) (by omega) (by rw [List.getD_eq_getElem?_getD, List.getElem?_take, if_pos (by omega), ← List.getD_eq_getElem?_getD]; exact hS.fst)
              rwa [List.append_nil] at this
          refine ⟨D.take k, D.drop k, [], 0, ?_, fun d hd => hS.dg d (List.mem_of_mem_take hd), fun d hd => hS.dg d (List.mem_of_mem_drop hd), fun h => absurd h hF, ex_none, by omega, ?_, ?_, ?_, ?_⟩
          · rw [hb, if_neg c4, if_neg hF, hkt, List.append_nil]
          · rw [hT]; exact fun h => hF h.2
          · rw [hT, hD0]
            unfold sigD
            by_cases hk0 : k = 0
            · subst hk0
              rw [if_pos (by simp), List.drop_zero, hS.drop]
            · rw [if_neg (fun h => by rw [h] at htl; simp at htl; omega), if_neg hF, List.take_append_drop]
          · rw [hT, hD0]
            unfold nrm
            by_cases hk0 : k = 0
            · subst hk0
              rw [if_pos (by simp), List.drop_zero, hS.drop]; omega
            · rw [if_neg (fun h => by rw [h] at htl; simp at htl; omega), htl]; omega
          · rw [hb, hb]
      · have hb : ∀ G, second D G e = false → body D G e = D ++ 101 :: 45 :: digs (-(e - D.length)) := fun G hG => by unfold body; rw [if_neg c1, if_neg (by rw [hG]; decide), if_neg c3]
        have c4 : second D [] e = false := by unfold second; simp
        refine ⟨D, [], 101 :: 45 :: digs (-(e - D.length)), e - D.length, ?_, hS.dg, fun d h => absurd h (by simp), fun _ => hnn, ?_, by simp; omega, ?_, ?_, ?_, ?_⟩
        · rw [hb F c2f, if_pos rfl, List.append_nil]
        · have := ex_neg (i := -(e - D.length)) (by omega) (by omega)
          rwa [Int.neg_neg] at this
        · rw [hS.drop]; exact fun h => hnn h.1
        · rw [hS.drop, trimF_none]; unfold sigD; rw [if_neg hnn, if_pos rfl, hS.trim]
        · rw [hS.drop]; unfold nrm; rw [if_neg hnn]; omega
        · rw [trimF_none, hb [] c4, hb F c2f]

/-- A number's text, in its parts. -/
structure Num (t d sg I F x : List Int) (ev : Int) : Prop where
  eq : t = d ++ x
  dec : Dec d sg I F
  ex : Ex x ev
  len : I.length + F.length ≤ 40
/-- What the program makes of it. -/
def numOut (t sg I F : List Int) (ev : Int) : List Int := if t.length ≤ 1 then t else numR t (decide (sg = [45])) (dropZ I) (trimF F) ev

theorem sig_len {I F : List Int} : (sigD (dropZ I) (trimF F)).length ≤ I.length + F.length := by
  have a1 := dropZ_len I
  have a2 := trimF_len F
  have a3 := dropZ_len (trimF F)
  have a4 := trimF_len (dropZ I)
  unfold sigD
  split
  · omega
  · split
    · omega
    · rw [List.length_append]; omega
theorem nrm_len {I F : List Int} : -(F.length : Int) ≤ nrm (dropZ I) (trimF F) ∧ nrm (dropZ I) (trimF F) ≤ I.length := by
  have a1 := dropZ_len I
  have a2 := trimF_len F
  have a3 := dropZ_len (trimF F)
  unfold nrm
  split <;> omega

/-- What Number makes: a number again, of the same value; and Number leaves it. -/
theorem num_again {t d sg I F x : List Int} {ev : Int} (h : Num t d sg I F x ev) (hl : I.length + F.length ≤ 18) (hv : -99 ≤ ev ∧ ev ≤ 99) (hp : 0 < t.length) :
    ∃ d' sg' I' F' x' ev', Num (numOut t sg I F ev) d' sg' I' F' x' ev' ∧ numOut (numOut t sg I F ev) sg' I' F' ev' = numOut t sg I F ev ∧ valL (numOut t sg I F ev) = valL t ∧ 0 < (numOut t sg I F ev).length := by
  by_cases h1 : t.length ≤ 1
  · have hR : numOut t sg I F ev = t := by unfold numOut; rw [if_pos h1]
    rw [hR]
    exact ⟨d, sg, I, F, x, ev, h, hR, rfl, hp⟩
  · by_cases hz : dropZ I = [] ∧ trimF F = []
    · have hR : numOut t sg I F ev = [48] := by unfold numOut numR; rw [if_neg h1, if_pos hz]
      rw [hR]
      refine ⟨[48], [], [48], [], [], 0, ⟨rfl, ⟨by simp [signsL], ?_, fun _ h => absurd h (by simp), by simp, rfl⟩, ex_none, by simp⟩, rfl, ?_, by simp⟩
      · intro d hd
        simp at hd
        rw [hd]
        unfold dig
        omega
      · rw [h.eq, valL_num h.dec h.ex, valOf_zero _ _ _ _ hz]
        decide
    · by_cases ha : asIs (dropZ I) (trimF F) ev = true
      · have hR : numOut t sg I F ev = t := by unfold numOut numR; rw [if_neg h1, if_neg hz, if_pos ha]
        rw [hR]
        exact ⟨d, sg, I, F, x, ev, h, hR, rfl, hp⟩
      · obtain ⟨hS, hval⟩ := sig_of h.dec.int h.dec.fr hz
        obtain ⟨D, hD⟩ : ∃ D, sigD (dropZ I) (trimF F) = D := ⟨_, rfl⟩
        obtain ⟨e, he⟩ : ∃ e, nrm (dropZ I) (trimF F) + ev = e := ⟨_, rfl⟩
        have hR : numOut t sg I F ev = minus sg ++ body D (trimF F) e := by
          unfold numOut numR
          rw [if_neg h1, if_neg hz, if_neg ha, hD, he]
          unfold minus
          by_cases hs : sg = [45]
          · rw [if_pos (by simp [hs]), if_pos hs]
          · rw [if_neg (by simp [hs]), if_neg hs]
        have hn := nrm_len (I := I) (F := F)
        have hsl := sig_len (I := I) (F := F)
        rw [hD] at hS hval hsl
        obtain ⟨I', F', x', ev', b1, b2, b3, b4, b5, b6, b7, b8, b9, b10⟩ := body_again (F := trimF F) (e := e) hS (by omega) (by omega) (by omega)
        have hR2 : numOut t sg I F ev = (minus sg ++ I' ++ (if F' = [] then [] else 46 :: F')) ++ x' := by rw [hR, b1]; simp only [List.append_assoc]
        have hdec : Dec (minus sg ++ I' ++ (if F' = [] then [] else 46 :: F')) (minus sg) I' F' := ⟨minus_sign sg, b2, b3, b4, rfl⟩
        refine ⟨_, minus sg, I', F', x', ev', ⟨hR2, hdec, b5, b6⟩, ?_, ?_, ?_⟩
        · obtain ⟨R, hRR⟩ : ∃ R, numOut t sg I F ev = R := ⟨_, rfl⟩
          rw [hRR] at hR ⊢
          unfold numOut
          split
          · rfl
          · unfold numR
            rw [if_neg b7]
            split
            · rfl
            · rw [b8, b9, b10, hR]
              unfold minus
              by_cases hs : sg = [45]
              · simp [hs]
              · simp [hs]
        · rw [hR2, valL_num hdec b5, h.eq, valL_num h.dec h.ex, minus_twice, hval]
          obtain ⟨hS', hval'⟩ := sig_of b2 b3 b7
          rw [hval', b8, b9, he]
        · have := body_pos (D := D) (F := trimF F) (e := e) hS.ne
          rw [hR, List.length_append]
          omega

theorem ex_byte {x : List Int} {ev : Int} (h : Ex x ev) : ∀ c ∈ x, byteN c := by
  intro c hc
  have hne : x ≠ [] := fun e => by rw [e] at hc; simp at hc
  obtain ⟨a, s, n, rfl, ha, hs, n1, n3, hd, _⟩ := h.some_ hne
  rcases List.mem_cons.1 hc with rfl | hc
  · unfold byteN; omega
  · rcases List.mem_append.1 hc with hc | hc
    · rcases hs with rfl | rfl | rfl
      · simp at hc
      · simp at hc; rw [hc]; unfold byteN; omega
      · simp at hc; rw [hc]; unfold byteN; omega
    · have := hd c hc
      unfold dig at this
      unfold byteN
      omega
theorem Num.byte {t d sg I F x : List Int} {ev : Int} (h : Num t d sg I F x ev) : ∀ c ∈ t, byteN c := by
  intro c hc
  rw [h.eq] at hc
  rcases List.mem_append.1 hc with hc | hc
  · exact h.dec.byte c hc
  · exact ex_byte h.ex c hc

theorem NumForm.num {t : List Int} (h : NumForm t) : ∃ d sg I F x ev, Num t d sg I F x ev ∧ I.length + F.length ≤ 18 ∧ (-99 ≤ ev ∧ ev ≤ 99) ∧ 0 < t.length ∧ t.length ≤ 30 := by
  obtain ⟨d, x, hd, rfl, hx⟩ := h
  obtain ⟨sg, I, F, hdec⟩ := hd.dec
  have hdl := hd.len
  have hdn : 0 < d.length := by
    rw [hdec.eq]
    by_cases hF : F = []
    · have : I.length ≠ 0 := fun e => hdec.some_ hF (List.eq_nil_of_length_eq_zero e)
      simp; omega
    · rw [if_neg hF]; simp; omega
  have hIF2 : I.length + F.length ≤ 18 := by
    have hlen := congrArg List.length hdec.eq
    by_cases hF : F = []
    · rw [if_pos hF] at hlen
      have : F.length = 0 := by rw [hF]; rfl
      simp at hlen
      omega
    · rw [if_neg hF] at hlen
      simp at hlen
      omega
  rcases hx with rfl | ⟨e, he, s, hs, n, hn, rfl⟩
  · exact ⟨d, sg, I, F, [], 0, ⟨rfl, hdec, ex_none, by omega⟩, hIF2, by omega, by simp; omega, by simp; omega⟩
  · have hn1 : 1 ≤ n.length ∧ n.length ≤ 2 ∧ (∀ c ∈ n, dig c) := by
      simp only [exsL, List.mem_cons, List.not_mem_nil, or_false] at hn
      rcases hn with rfl | rfl | rfl | rfl | rfl | rfl | rfl <;> refine ⟨by decide, by decide, ?_⟩ <;> intro c hc <;> simp at hc <;> unfold dig <;> omega
    obtain ⟨n1, n2, n3⟩ := hn1
    have hb : 0 ≤ numV n ∧ numV n ≤ 99 := by
      simp only [exsL, List.mem_cons, List.not_mem_nil, or_false] at hn
      rcases hn with rfl | rfl | rfl | rfl | rfl | rfl | rfl <;> decide
    have hdl2 : dl (numV n) ≤ n.length := by
      simp only [exsL, List.mem_cons, List.not_mem_nil, or_false] at hn
      rcases hn with rfl | rfl | rfl | rfl | rfl | rfl | rfl <;> decide
    obtain ⟨c, rfl, hc⟩ : ∃ c, e = [c] ∧ (c = 101 ∨ c = 69) := by
      simp only [esL, List.mem_cons, List.not_mem_nil, or_false] at he
      rcases he with rfl | rfl
      · exact ⟨101, rfl, .inl rfl⟩
      · exact ⟨69, rfl, .inr rfl⟩
    have hs3 : (s = [] ∨ s = [43] ∨ s = [45]) := by
      simpa [esgL] using hs
    have hsl : s.length ≤ 1 := by rcases hs3 with rfl | rfl | rfl <;> simp
    have hx1 : [c] ++ s ++ n = c :: (s ++ n) := by simp
    refine ⟨d, sg, I, F, [c] ++ s ++ n, (if s = [45] then -numV n else numV n), ⟨rfl, hdec, ⟨fun h => absurd h (by simp), fun _ => ⟨c, s, n, hx1, hc, hs3, n1, by omega, n3, rfl⟩, ?_, ?_, ?_⟩, by omega⟩, hIF2, ?_, by simp; omega, by simp; omega⟩
    · split <;> omega
    · intro h
      by_cases hs4 : s = [45]
      · rw [if_pos hs4, Int.neg_neg, hs4]
        simp
        omega
      · rw [if_neg hs4] at h
        omega
    · intro h
      by_cases hs4 : s = [45]
      · rw [if_pos hs4] at h
        omega
      · rw [if_neg hs4]
        simp
        omega
    · split <;> omega

end Go.Proofs.Ythfogblmcmlkhaa
