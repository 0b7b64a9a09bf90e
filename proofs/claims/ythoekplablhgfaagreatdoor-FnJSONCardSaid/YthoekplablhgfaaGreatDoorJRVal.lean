/-
  The contracts of (*spec.jsonReader).inner at rows, value and spec.ReadJSON.
-/
import Derived.Test.YthoekplablhgfaaGreatDoorJRList
namespace Go.Proofs.YthoekplablhgfaaGreatDoor
open Go.RowKit
set_option linter.unusedVariables false

set_option maxRecDepth 100000 in
set_option maxHeartbeats 1600000 in
/-- inner at a row: what list answers. -/
theorem inner_list (T : JT) (f g p q d : Nat) (c en kd : Int) (s : ByteArray) (w : World) (h : Rd w g s p d) (hs : s.size ≤ 100000) (hc : byteAt s p = c) (hk : (c = 91 ∧ en = 93 ∧ kd = 97) ∨ (c = 123 ∧ en = 125 ∧ kd = 111))
    (hl : ∀ wq, Rd wq g s p d → Calls Tryz.prog 31 #[.pointer (some ⟨g, 0, none⟩), .int .u8 en, .int .u8 kd] wq (InPost T f g q d s wq)) :
    Calls Tryz.prog 22 #[.pointer (some ⟨g, 0, none⟩)] w (InPost T f g q d s w) := by
  obtain ⟨W1, hW1⟩ : ∃ W, w.alloc (.cells #[.int .u8 0, .string ⟨#[]⟩, .slice none 0 0, .string ⟨#[]⟩] 27) = W := ⟨_, rfl⟩
  have hj1 : JB W1 w.heap.size 0 ⟨#[]⟩ (.slice none 0 0) ⟨#[]⟩ := by rw [← hW1]; exact JB.new w
  have hr1 : Rd W1 g s p d := by rw [← hW1]; exact h.alloc _
  have hg1 : w.grownBy W1 (some g) := by rw [← hW1]; exact World.grownBy_alloc _ _ _
  have hlt := h.lt
  have HJ := Lib.hid hj1
  have H := Lib.hid hr1
  have HG := Lib.hid hg1
  have HC := Lib.hid hc
  have HL := Lib.hid hl
  clear hl h hc hj1 hr1 hg1
  have f0 : (c == 34) = false := by simp; omega
  have f1 : (c == 45) = false := by simp; omega
  have e1 : decide (48 ≤ c ∧ c ≤ 57) = false := decide_eq_false (by omega)
  have hc0 : 0 ≤ c ∧ c ≤ 255 := by omega
  obtain ⟨hc0, hc1⟩ := hc0
  go_enter Tryz.func22, Tryz.ntmps22
  go_wp2_with fail
  refine (peek_at g p d s _ H.out (by omega)).mono ?_
  rintro e w1 ⟨rfl, hg1⟩
  rw [HC.out]
  have HR1 := Lib.hid (H.out.keep (hg1.block g H.out.lt (by simp)))
  have HJ1 := Lib.hid (HJ.out.keep (hg1.block _ HJ.out.lt (by simp)))
  have HG1 := Lib.hid (grownBy_trans HG.out (grownBy_none (g := g) hg1))
  clear hg1 H HJ HG
  go_wp2_with fail
  refine (isDigit_at c _ ⟨hc0, hc1⟩).mono ?_
  rintro e w2 ⟨rfl, rfl⟩
  rw [e1]
  clear e1 f0 f1
  rcases hk with ⟨rfl, rfl, rfl⟩ | ⟨rfl, rfl, rfl⟩
  all_goals
    go_wp2_with fail
    refine (HL.out w1 HR1.out).mono ?_
    rintro e w2 ⟨vi, rfl, hrows, hr2, hg2⟩
    obtain ⟨ao, vn, vc, rfl⟩ := hrows.form
    unfold agg
    have HG2 := Lib.hid (grownBy_trans HG1.out hg2)
    have HR2 := Lib.hid hr2
    have HJ2 := Lib.hid (HJ1.out.keep (hg2.block _ HJ1.out.lt (fun e => by injection e with e; omega)))
    have hs1 := HG1.out.size
    have HROWS := Lib.hid (hrows.mono (B' := InW (w.heap.size + 1) w2) fun k hk => ⟨by have := hk.1; have := HJ1.out.lt; omega, hk.2⟩)
    clear hr2 hg2 HJ1 HR1 HG1 hrows
    have z0 := HJ2.out.c0
    have z1 := HJ2.out.c1
    have z2 := HJ2.out.c2
    have z3 := HJ2.out.c3
    have y0 := HJ2.out.fz 0
    have y1 := HJ2.out.fz 1
    have y2 := HJ2.out.fz 2
    have y3 := HJ2.out.fz 3
    go_wp2_with fail
    (try simp only [Exit.inBlock, Exit.then])
    refine bodyPost_ret (results_jb rfl rfl (HJ2.out.set T.k _ _ _)) ?_ ?_
    · rfl
    · refine ⟨.slice ao vn vc, rfl, ?_, HR2.out.keep (set4_other _ _ _ _ _ _ _ (by omega)), grownBy_set4 HG2.out (Nat.le_refl _) _ _ _ _⟩
      exact (rows_set (rows_set (rows_set (rows_set HROWS.out (Nat.lt_succ_self _)) (Nat.lt_succ_self _)) (Nat.lt_succ_self _)) (Nat.lt_succ_self _)).mono fun k hk => ⟨by have := hk.1; omega, hk.2⟩

/-- inner at any value. -/
theorem inner_at (d g p dp : Nat) (v : JVal) (t : List Int) (s : ByteArray) (w : World) (hv : ValAt d) (ht : JTx (d + 1) v t) (h : Rd w g s p dp) (hs : s.size ≤ 100000) (hdp : dp + d ≤ 100) (hl : LiesAt s p t) (hst : Stop (byteAt s (p + t.length))) :
    Calls Tryz.prog 22 #[.pointer (some ⟨g, 0, none⟩)] w (InPost (tr (d + 1) v) (d + 1) g (p + t.length) dp s w) := by
  unfold JTx JTxt at ht
  cases v with
  | lit x =>
    obtain ⟨h1, rfl⟩ := ht
    exact inner_lit d g p dp s t w h hs h1 hl
  | num x =>
    obtain ⟨h1, rfl⟩ := ht
    exact inner_num d g p dp s t w h hs h1 hl hst
  | str x =>
    obtain ⟨h1, rfl⟩ := ht
    exact inner_str d g p dp s t w h (by omega) h1 hl
  | arr l =>
    obtain ⟨h1, sp, u, h2, h3, rfl⟩ := ht
    have e1 : 91 :: sp ++ u ++ [93] = 91 :: (sp ++ (u ++ [93])) := by simp
    rw [e1] at hl ⊢
    have e2 : p + (91 :: (sp ++ (u ++ [93]))).length = p + 1 + sp.length + u.length + 1 := by simp; omega
    rw [e2]
    exact inner_list _ _ g p _ dp 91 93 97 s w h hs hl.head.2 (.inl ⟨rfl, rfl, rfl⟩) fun wq hq => list_arr d g p dp s l sp u wq hv hq hs hdp h2 h3 hl h1
  | obj l =>
    obtain ⟨h1, sp, u, h2, h3, rfl⟩ := ht
    have e1 : 123 :: sp ++ u ++ [125] = 123 :: (sp ++ (u ++ [125])) := by simp
    rw [e1] at hl ⊢
    have e2 : p + (123 :: (sp ++ (u ++ [125]))).length = p + 1 + sp.length + u.length + 1 := by simp; omega
    rw [e2]
    exact inner_list _ _ g p _ dp 123 125 111 s w h hs hl.head.2 (.inr ⟨rfl, rfl, rfl⟩) fun wq hq => list_obj d g p dp s l sp u wq hv hq hs hdp h2 h3 hl h1

theorem rows_alloc {f lo : Nat} {w : World} {v : Value} {ks : List JT} (h : Rows f w (InW lo w) v ks) (o : Obj) : Rows f (w.alloc o) (InW lo (w.alloc o)) v ks :=
  (h.frame fun b hb => heap_alloc_old w o hb.2).mono fun b hb => ⟨hb.1, by have := hb.2; simp; omega⟩
set_option maxRecDepth 100000 in
set_option maxHeartbeats 1600000 in
theorem value_step (d : Nat) (hv : ValAt d) : ValAt (d + 1) := by
  intro v t ht g p dp s ws w h hs hdp hws hl hst
  obtain ⟨c, r, hc, hcO⟩ := txt_opens ht
  obtain ⟨q, hq⟩ : ∃ q, p + ws.length = q := ⟨_, rfl⟩
  rw [hq] at hst
  rw [hq]
  have hlt := hl.drop
  rw [hq] at hlt
  have hcc : byteAt s q = c := by rw [hc] at hlt; exact hlt.head.2
  have hnw : p + ws.length = s.size ∨ ¬ wsb (byteAt s (p + ws.length)) := .inr (by rw [hq, hcc]; exact opens_no_ws hcO)
  have hps : p ≤ s.size := by have := hl.1; omega
  obtain ⟨T, hT⟩ : ∃ T, tr (d + 1) v = T := ⟨_, rfl⟩
  have hin : ∀ wq, Rd wq g s q (dp + 1) → Calls Tryz.prog 22 #[.pointer (some ⟨g, 0, none⟩)] wq (InPost T (d + 1) g (q + t.length) (dp + 1) s wq) := fun wq hr => by
    rw [← hT]
    exact inner_at d g q (dp + 1) v t s wq hv ht hr hs (by omega) hlt hst
  rw [hT]
  obtain ⟨E, hE⟩ : ∃ E, q + t.length = E := ⟨_, rfl⟩
  rw [hE] at hin ⊢
  obtain ⟨W1, hW1⟩ : ∃ W, w.alloc (.cells #[.int .u8 0, .string ⟨#[]⟩, .slice none 0 0, .string ⟨#[]⟩] 27) = W := ⟨_, rfl⟩
  have hj1 : JB W1 w.heap.size 0 ⟨#[]⟩ (.slice none 0 0) ⟨#[]⟩ := by rw [← hW1]; exact JB.new w
  have hr1 : Rd W1 g s p dp := by rw [← hW1]; exact h.alloc _
  have hg1 : w.grownBy W1 (some g) := by rw [← hW1]; exact World.grownBy_alloc _ _ _
  have hltg := h.lt
  have HJ := Lib.hid hj1
  have H := Lib.hid hr1
  have HG := Lib.hid hg1
  have HIN := Lib.hid hin
  have HL := Lib.hid hl
  have HWS := Lib.hid hws
  have HNW := Lib.hid hnw
  have HQ := Lib.hid hq
  clear h hl hlt hst ht hc hcO hcc hnw hin hj1 hr1 hg1 hT hws hq hE hv
  go_enter Tryz.func13, Tryz.ntmps13
  go_wp2_with fail
  refine (space_at g p dp s _ H.out (by omega) hps).mono ?_
  rintro e w2 ⟨rfl, qx, hq1, hq2, hq3, hq4, hr2, hg2⟩
  have hqx := space_end HWS.out HL.out HNW.out hq1 hq2 hq3 hq4
  rw [HQ.out] at hqx
  subst hqx
  have HR2 := Lib.hid hr2
  have HJ2 := Lib.hid (HJ.out.keep (hg2.block _ HJ.out.lt (fun e => by injection e with e; omega)))
  have HG2 := Lib.hid (grownBy_trans HG.out hg2)
  have k2 := hr2.c2
  have kf := hr2.fz 2
  have hd1 : ¬ (100 : Int) ≤ (dp : Int) := by omega
  clear hr2 hg2 hq1 hq2 hq3 hq4 H HJ HG
  have hrd := HR2.out.deep (dp + 1)
  have HRD := Lib.hid hrd
  clear hrd
  go_wp2_with fail
  refine (HIN.out _ HRD.out).mono ?_
  rintro e w3 ⟨vi, rfl, hrows, hr3, hg3⟩
  obtain ⟨ao, vn, vc, rfl⟩ := hrows.form
  unfold agg
  have HR3 := Lib.hid hr3
  have HJ3 := Lib.hid (HJ2.out.keep (show w3.heap[w.heap.size]? = w2.heap[w.heap.size]? from (hg3.block _ (by rw [World.size_setCell]; exact HJ2.out.lt) (fun e => by injection e with e; omega)).trans (Below.heap_setCell _ _ _ _ (by show w.heap.size ≠ g; omega))))
  have HG3 := Lib.hid (grownBy_trans HG2.out (grownBy_trans (grownBy_set w2 g 2 _) hg3))
  have hs2 := HG2.out.size
  have hs2w : w.heap.size < w2.heap.size := HJ2.out.lt
  have HROWS := Lib.hid (hrows.mono (B' := InW (w.heap.size + 1) w3) fun k hk => ⟨by have := hk.1; rw [World.size_setCell] at this; omega, hk.2⟩)
  clear hrows hr3 hg3 HJ2 HR2 HG2 HRD k2 kf hd1
  have k2 := HR3.out.c2
  have kf := HR3.out.fz 2
  have z0 := HJ3.out.c0
  have z1 := HJ3.out.c1
  have z2 := HJ3.out.c2
  have z3 := HJ3.out.c3
  have y0 := HJ3.out.fz 0
  have y1 := HJ3.out.fz 1
  have y2 := HJ3.out.fz 2
  have y3 := HJ3.out.fz 3
  have hb3 : w.heap.size < w3.heap.size := HJ3.out.lt
  have hb4 : ¬ w.heap.size = w3.heap.size := by omega
  have hg3 : g < w3.heap.size := HR3.out.lt
  have hg4 : ¬ g = w3.heap.size := by omega
  go_wp2_with fail
  (try simp only [Exit.inBlock, Exit.then])
  have hj4 : JB (w3.setCell ⟨g, 2, none⟩ (.int .i64 (dp : Nat))) w.heap.size 0 ⟨#[]⟩ (.slice none 0 0) ⟨#[]⟩ := HJ3.out.keep (Below.heap_setCell _ _ _ _ (by show w.heap.size ≠ g; omega))
  have hj5 := hj4.set T.k T.t T.u (.slice ao vn vc)
  have hj6 := hj5.keep (heap_alloc_old _ (.cells #[.int .u8 T.k, .string T.t, .slice ao vn vc, .string T.u] 27) hj5.lt)
  refine bodyPost_ret (results_jb rfl rfl hj6) ?_ ?_
  · rfl
  · refine ⟨.slice ao vn vc, rfl, ?_, ?_, ?_⟩
    · exact (rows_alloc (rows_set (rows_set (rows_set (rows_set (rows_set HROWS.out (show g < w.heap.size + 1 by omega)) (Nat.lt_succ_self _)) (Nat.lt_succ_self _)) (Nat.lt_succ_self _)) (Nat.lt_succ_self _)) _).mono fun k hk => ⟨by have := hk.1; omega, hk.2⟩
    · exact ((HR3.out.deep dp).keep (set4_other _ _ _ _ _ _ _ (by omega))).alloc _
    · exact grownBy_trans (grownBy_set4 (grownBy_trans HG3.out (grownBy_set w3 g 2 _)) (Nat.le_refl _) _ _ _ _) (World.grownBy_alloc _ _ _)
theorem value_at : ∀ d, ValAt d
  | 0 => fun v t ht => ht.elim
  | d + 1 => value_step d (value_at d)

end Go.Proofs.YthoekplablhgfaaGreatDoor
