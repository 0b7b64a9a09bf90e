/-
  The contract of (*spec.jsonReader).list.
-/
import Derived.Test.YthoekplablhgfaaGreatDoorJRInner
import Derived.Deep.AppendLies
namespace Go.Proofs.YthoekplablhgfaaGreatDoor
open Go.RowKit
set_option linter.unusedVariables false

/-- value reads what is no deeper than d. -/
def ValAt (d : Nat) : Prop := ∀ (v : JVal) (t : List Int), JTx d v t → ∀ (g p dp : Nat) (s : ByteArray) (ws : List Int) (w : World), Rd w g s p dp → s.size ≤ 100000 → dp + d ≤ 100 → JWs ws → LiesAt s p (ws ++ t) → Stop (byteAt s (p + ws.length + t.length)) →
  Calls Tryz.prog 13 #[.pointer (some ⟨g, 0, none⟩)] w (InPost (tr d v) d g (p + ws.length + t.length) dp s w)
theorem rows_grown {f lo g : Nat} {w w' : World} {v : Value} {ks : List JT} (h : Rows f w (InW lo w) v ks) (hg : w.grownBy w' (some g)) (hlt : g < lo) : Rows f w' (InW lo w') v ks :=
  (h.frame fun b hb => hg.block b hb.2 (fun e => by injection e with e; have := hb.1; omega)).mono fun b hb => ⟨hb.1, by have := hg.size; have := hb.2; omega⟩
theorem ws_stop {s : ByteArray} {q : Nat} {ws l : List Int} {c : Int} (hw : JWs ws) (h : LiesAt s q (ws ++ c :: l)) (hc : c = 44 ∨ c = 93 ∨ c = 125 ∨ c = 58) : Stop (byteAt s q) := by
  cases ws with
  | nil =>
    rw [(show LiesAt s q (c :: l) from h).head.2]
    unfold Stop isDg; omega
  | cons a r =>
    rw [(show LiesAt s q (a :: (r ++ c :: l)) from h).head.2]
    have := hw a (by simp)
    unfold Stop isDg; omega
theorem JB.put2 {w : World} {b : Nat} {k : Int} {t u : ByteArray} {vi : Value} (h : JB w b k t vi u) (vi' : Value) : JB (w.setCell ⟨b, 2, none⟩ vi') b k t vi' u := (heap_set (show w.heap[b]? = _ from h) _).trans rfl
theorem grownBy_new {w W : World} {b o : Nat} {r : Option Nat} (h : w.grownBy W r) (hb : w.heap.size ≤ b) (v : Value) : w.grownBy (W.setCell ⟨b, o, none⟩ v) r :=
  ⟨h.os, h.tape, h.output, by simpa [World.setCell] using h.size, fun k hk hr => (Below.heap_setCell _ _ _ _ (by show k ≠ b; omega)).trans (h.block k hk hr)⟩

/-- What the row's new cells are. -/
theorem node_lies (w : World) (T : JT) (vi : Value) : ∀ j u, (nodeL T vi)[j]? = some u → (w.alloc (.cells #[.int .u8 T.k, .string T.t, vi, .string T.u] 27)).cell? ((⟨w.heap.size, 0, none⟩ : Addr).add j) = some u := by
  intro j u hu
  have ha : (⟨w.heap.size, 0, none⟩ : Addr).add j = ⟨w.heap.size, j, none⟩ := by unfold Addr.add; split <;> simp_all
  rw [ha, cell_of_row _ _ j _ _ _ (heap_alloc_new w _)]
  have : (#[Value.int .u8 T.k, .string T.t, vi, .string T.u] : Array Value)[j]? = (nodeL T vi)[j]? := by unfold nodeL; simp
  rw [this]
  exact hu
theorem node_one (T : JT) {vi : Value} (h : vi.oneCell' = true) : ∀ u ∈ nodeL T vi, u.oneCell' = true := by
  intro u hu
  simp only [nodeL, List.mem_cons, List.not_mem_nil, or_false] at hu
  rcases hu with rfl | rfl | rfl | rfl
  · rfl
  · rfl
  · exact h
  · rfl
theorem Rows.owned {f : Nat} {w : World} {B : Nat → Prop} {v : Value} {ks : List JT} (h : Rows f w B v ks) : ∀ k, v.ownBlock = some k → B k := by
  cases f with
  | zero => exact h.elim
  | succ f =>
    obtain ⟨xs, h1, _⟩ := h
    exact h1.2
theorem Rows.slice {f : Nat} {w : World} {B : Nat → Prop} {v : Value} {ks : List JT} (h : Rows f w B v ks) : v.oneCell' = true := by
  cases f with
  | zero => exact h.elim
  | succ f =>
    obtain ⟨xs, ⟨⟨_, h1⟩, _⟩, _⟩ := h
    rcases h1 with ⟨rfl, _⟩ | ⟨g, cap, cur, rfl, _⟩ <;> rfl
theorem Rows.form {f : Nat} {w : World} {B : Nat → Prop} {v : Value} {ks : List JT} (h : Rows f w B v ks) : ∃ ao n c, v = .slice ao n c := by
  cases f with
  | zero => exact h.elim
  | succ f =>
    obtain ⟨xs, ⟨⟨_, h1⟩, _⟩, _⟩ := h
    rcases h1 with ⟨rfl, _⟩ | ⟨g, cap, cur, rfl, _⟩ <;> exact ⟨_, _, _, rfl⟩
theorem grownBy_own {w w1 w2 : World} {r ob : Option Nat} (h : w.grownBy w1 r) (h2 : w1.grownBy w2 ob) (ho : ∀ k, ob = some k → w.heap.size ≤ k) : w.grownBy w2 r :=
  ⟨h2.os.trans h.os, h2.tape.trans h.tape, h2.output.trans h.output, Nat.le_trans h.size h2.size, fun k hk hr => (h2.block k (by have := h.size; omega) (fun e => by have := ho k e.symm; omega)).trans (h.block k hk hr)⟩
theorem rows_set {f lo c o : Nat} {w : World} {v x : Value} {ks : List JT} (h : Rows f w (InW lo w) v ks) (hc : c < lo) : Rows f (w.setCell ⟨c, o, none⟩ x) (InW lo (w.setCell ⟨c, o, none⟩ x)) v ks :=
  (h.frame fun b hb => Below.heap_setCell _ _ _ _ (by show b ≠ c; have := hb.1; omega)).mono fun b hb => ⟨hb.1, by rw [World.size_setCell]; exact hb.2⟩
/-- One item is read, what is left begins behind it. -/
theorem items_head {α : Type} {T : α → List Int → Prop} {x : α} {rest : List α} {ut : List Int} (h : Items T (x :: rest) ut) : ∃ u1 s1, T x u1 ∧ JWs s1 ∧ ((rest = [] ∧ ut = u1 ++ s1) ∨ ∃ y r s2 v, rest = y :: r ∧ JWs s2 ∧ Items T (y :: r) v ∧ ut = u1 ++ (s1 ++ 44 :: (s2 ++ v))) := by
  cases rest with
  | nil =>
    obtain ⟨u, s, h1, h2, rfl⟩ := h
    exact ⟨u, s, h1, h2, .inl ⟨rfl, rfl⟩⟩
  | cons y r =>
    obtain ⟨u, s, s', v, h1, h2, h3, h4, rfl⟩ := h
    exact ⟨u, s, h1, h2, .inr ⟨y, r, s', v, rfl, h3, h4, by simp⟩⟩

theorem items_next {α : Type} {T : α → List Int → Prop} {x : α} {rest : List α} {ut : List Int} (h : Items T (x :: rest) ut) (en : Int) : ∃ u1 s1 cN tl, T x u1 ∧ JWs s1 ∧ ut ++ [en] = u1 ++ (s1 ++ cN :: tl) ∧ ((cN = en ∧ tl = [] ∧ rest = []) ∨ (cN = 44 ∧ ∃ y r s2 v, rest = y :: r ∧ JWs s2 ∧ Items T (y :: r) v ∧ tl = s2 ++ (v ++ [en]))) := by
  obtain ⟨u1, s1, h1, h2, h3⟩ := items_head h
  rcases h3 with ⟨rfl, rfl⟩ | ⟨y, r, s2, v, rfl, h4, h5, rfl⟩
  · exact ⟨u1, s1, en, [], h1, h2, by simp, .inl ⟨rfl, rfl, rfl⟩⟩
  · exact ⟨u1, s1, 44, s2 ++ (v ++ [en]), h1, h2, by simp, .inr ⟨rfl, y, r, s2, v, rfl, h4, h5, rfl⟩⟩

/-- How far list has come: done is read, x comes next. -/
def ArrInv (d g b E dp : Nat) (s : ByteArray) (l : List JVal) (w wr : World) : Prop := ∃ (done : List JVal) (x : JVal) (rest : List JVal) (wsx ut : List Int) (q : Nat) (vk : Value),
  l = done ++ x :: rest ∧ JWs wsx ∧ Items (JTx d) (x :: rest) ut ∧ LiesAt s q (wsx ++ (ut ++ [93])) ∧ q + wsx.length + ut.length + 1 = E ∧ Rd wr g s q dp ∧ JB wr b 0 ⟨#[]⟩ (.slice none 0 0) ⟨#[]⟩ ∧ JB wr (b + 1) 97 ⟨#[]⟩ vk ⟨#[]⟩ ∧ Rows (d + 1) wr (InW (b + 2) wr) vk (done.map (tr d)) ∧ w.grownBy wr (some g)

set_option maxRecDepth 100000 in
set_option maxHeartbeats 3200000 in
theorem list_arr (d g p dp : Nat) (s : ByteArray) (l : List JVal) (sp u : List Int) (w : World) (hv : ValAt d) (h : Rd w g s p dp) (hs : s.size ≤ 100000) (hdp : dp + d ≤ 100) (hsp : JWs sp) (hi : Items (JTx d) l u) (hl : LiesAt s p (91 :: (sp ++ (u ++ [93])))) (hll : l.length ≤ 3) :
    Calls Tryz.prog 31 #[.pointer (some ⟨g, 0, none⟩), .int .u8 93, .int .u8 97] w (InPost (.mk 97 ⟨#[]⟩ (l.map (tr d)) ⟨#[]⟩) (d + 1) g (p + 1 + sp.length + u.length + 1) dp s w) := by
  have hlt := h.lt
  have hsz := hl.1
  simp only [List.length_cons, List.length_append, List.length_nil] at hsz
  obtain ⟨W1, hW1⟩ : ∃ W, w.alloc (.cells #[.int .u8 0, .string ⟨#[]⟩, .slice none 0 0, .string ⟨#[]⟩] 27) = W := ⟨_, rfl⟩
  have hs1 : W1.heap.size = w.heap.size + 1 := by rw [← hW1]; simp
  have hj1 : JB W1 w.heap.size 0 ⟨#[]⟩ (.slice none 0 0) ⟨#[]⟩ := by rw [← hW1]; exact JB.new w
  have hr1 : Rd W1 g s p dp := by rw [← hW1]; exact h.alloc _
  have hg1 : w.grownBy W1 (some g) := by rw [← hW1]; exact World.grownBy_alloc _ _ _
  have hj1s : JB (W1.setCell ⟨g, 1, none⟩ (.int .i64 ((p : Int) + 1))) w.heap.size 0 ⟨#[]⟩ (.slice none 0 0) ⟨#[]⟩ := hj1.keep (Below.heap_setCell W1 _ _ _ (by show w.heap.size ≠ g; omega))
  have hr1s : Rd (W1.setCell ⟨g, 1, none⟩ (.int .i64 ((p : Int) + 1))) g s (p + 1) dp := hr1.at_ (p + 1)
  have hg1s : w.grownBy (W1.setCell ⟨g, 1, none⟩ (.int .i64 ((p : Int) + 1))) (some g) := grownBy_trans hg1 (grownBy_at W1 g (p + 1))
  obtain ⟨W2, hW2⟩ : ∃ W, (W1.setCell ⟨g, 1, none⟩ (.int .i64 ((p : Int) + 1))).alloc (.cells #[.int .u8 97, .string ⟨#[]⟩, .slice none 0 0, .string ⟨#[]⟩] 27) = W := ⟨_, rfl⟩
  obtain ⟨b, hb⟩ : ∃ b, w.heap.size = b := ⟨_, rfl⟩
  have hs1s : (W1.setCell ⟨g, 1, none⟩ (.int .i64 ((p : Int) + 1))).heap.size = b + 1 := by rw [World.size_setCell, hs1, hb]
  have hs2 : W2.heap.size = b + 2 := by rw [← hW2]; simp [hs1, hb]
  have hj2 : JB W2 (b + 1) 97 ⟨#[]⟩ (.slice none 0 0) ⟨#[]⟩ := by rw [← hW2, ← hs1s]; exact heap_alloc_new _ _
  rw [hb] at hj1s
  have hj3 : JB W2 b 0 ⟨#[]⟩ (.slice none 0 0) ⟨#[]⟩ := by rw [← hW2]; exact hj1s.keep (heap_alloc_old _ _ (by omega))
  have hr2 : Rd W2 g s (p + 1) dp := by rw [← hW2]; exact hr1s.alloc _
  have hg2 : w.grownBy W2 (some g) := by rw [← hW2]; exact grownBy_trans hg1s (World.grownBy_alloc _ _ _)
  rw [hb] at hs1 hlt
  have HL := Lib.hid hl
  have HI := Lib.hid hi
  have HV := Lib.hid hv
  have HSP := Lib.hid hsp
  have HJ := Lib.hid hj3
  have HJ8 := Lib.hid hj2
  have HR := Lib.hid hr2
  have HG := Lib.hid hg2
  have k1 := hr1.c1
  have kf := hr1.fz 1
  have HW2 := Lib.hid hW2
  clear hW2 h hl hi hv hsp hj1 hr1 hg1 hj2 hj3 hr2 hg2 hj1s hr1s hg1s hs1s
  go_enter Tryz.func31, Tryz.ntmps31
  go_wp2_with fail
  rw [HW2.out]
  refine (space_at g (p + 1) dp s _ HR.out (by omega) (by omega)).mono ?_
  rintro e w3 ⟨rfl, q, hq1, hq2, hq3, hq4, hr3, hg3⟩
  have hl2 := HL.out.tail
  have HR3 := Lib.hid hr3
  have HJ3 := Lib.hid (HJ.out.keep (hg3.block b (by omega) (fun e => by injection e with e; omega)))
  have HJ83 := Lib.hid (HJ8.out.keep (hg3.block (b + 1) (by omega) (fun e => by injection e with e; omega)))
  have HG3 := Lib.hid (grownBy_trans HG.out hg3)
  have hs3 := hg3.size
  clear hr3 hg3 HR HJ HJ8 HG
  cases l with
  | nil =>
    have hu : u = [] := HI.out
    subst hu
    have hc := (show LiesAt s (p + 1 + sp.length) (93 :: []) from hl2.drop).head
    have hq : q = p + 1 + sp.length := space_end HSP.out hl2 (.inr (by rw [hc.2]; unfold wsb; omega)) hq1 hq2 hq3 hq4
    have HQ := Lib.hid hq
    have HC := Lib.hid (show byteAt s q = 93 from by rw [hq]; exact hc.2)
    have hqs : q + 1 ≤ s.size := by have := hc.1; omega
    clear hl2 hc hq hq1 hq2 hq3 hq4
    go_wp2_with fail
    refine (peek_at g q dp s _ HR3.out (by omega)).mono ?_
    rintro e w4 ⟨rfl, hg4⟩
    rw [HC.out]
    have HR4 := Lib.hid (HR3.out.keep (hg4.block g HR3.out.lt (by simp)))
    have HJ4 := Lib.hid (HJ3.out.keep (hg4.block b HJ3.out.lt (by simp)))
    have HJ84 := Lib.hid (HJ83.out.keep (hg4.block (b + 1) HJ83.out.lt (by simp)))
    have HG4 := Lib.hid (grownBy_trans HG3.out (grownBy_none (g := g) hg4))
    clear hg4 HR3 HJ3 HJ83 HG3
    have k1 := HR4.out.c1
    have kf := HR4.out.fz 1
    have z0 := HJ4.out.c0
    have y0 := HJ4.out.fz 0
    have zz0 := HJ84.out.c0
    have z1 := HJ4.out.c1
    have y1 := HJ4.out.fz 1
    have zz1 := HJ84.out.c1
    have z2 := HJ4.out.c2
    have y2 := HJ4.out.fz 2
    have zz2 := HJ84.out.c2
    have z3 := HJ4.out.c3
    have y3 := HJ4.out.fz 3
    have zz3 := HJ84.out.c3
    go_wp2_with fail
    (try simp only [Exit.inBlock, Exit.then])
    have hj5 : JB (w4.setCell ⟨g, 1, none⟩ (.int .i64 ((q : Int) + 1))) b 0 ⟨#[]⟩ (.slice none 0 0) ⟨#[]⟩ := HJ4.out.keep (Below.heap_setCell _ _ _ _ (by show b ≠ g; omega))
    refine bodyPost_ret (results_jb rfl rfl (hj5.set 97 _ _ _)) ?_ ?_
    · rfl
    · refine ⟨.slice none 0 0, rfl, rows_nil d _ _, ?_, grownBy_set4 (grownBy_trans HG4.out (grownBy_at w4 g (q + 1))) (by omega) _ _ _ _⟩
      rw [show p + 1 + sp.length + ([] : List Int).length + 1 = q + 1 from by rw [HQ.out]; rfl]
      exact (HR4.out.at_ (q + 1)).keep (set4_other _ _ _ _ _ _ _ (by omega))
  | cons x rest =>
    obtain ⟨u1, s1, hx1, hs1', hrest⟩ := items_head HI.out
    obtain ⟨c, r, hc, hcO⟩ := txt_opens hx1
    obtain ⟨u', hu'⟩ : ∃ u', u = c :: u' := by
      rcases hrest with ⟨_, h⟩ | ⟨_, _, _, _, _, _, _, h⟩ <;> exact ⟨_, by rw [h, hc]; rfl⟩
    have hcc := (show LiesAt s (p + 1 + sp.length) (c :: (u' ++ [93])) from by have := hl2.drop; rw [hu'] at this; exact this).head
    have hq : q = p + 1 + sp.length := space_end HSP.out hl2 (.inr (by rw [hcc.2]; exact opens_no_ws hcO)) hq1 hq2 hq3 hq4
    have HC := Lib.hid (show byteAt s q = c from by rw [hq]; exact hcc.2)
    have f93 : (c == 93) = false := by unfold Opens isDg at hcO; simp; omega
    have HQ := Lib.hid hq
    have HL3 := Lib.hid (show LiesAt s q ([] ++ (u ++ [93])) from by rw [hq]; exact hl2.drop)
    have hqs : q ≤ s.size := hq2
    clear hl2 hcc hq hq1 hq2 hq3 hq4 hrest hx1 hcO hc hu' hs1'
    go_wp2_with fail
    refine (peek_at g q dp s _ HR3.out (by omega)).mono ?_
    rintro e w4 ⟨rfl, hg4⟩
    rw [HC.out]
    have HR4 := Lib.hid (HR3.out.keep (hg4.block g HR3.out.lt (by simp)))
    have HJ4 := Lib.hid (HJ3.out.keep (hg4.block b HJ3.out.lt (by simp)))
    have HJ84 := Lib.hid (HJ83.out.keep (hg4.block (b + 1) HJ83.out.lt (by simp)))
    have HG4 := Lib.hid (grownBy_trans HG3.out (grownBy_none (g := g) hg4))
    clear hg4 HR3 HJ3 HJ83 HG3
    obtain ⟨E, hE⟩ : ∃ E, p + 1 + sp.length + u.length + 1 = E := ⟨_, rfl⟩
    rw [hE]
    have hEs : E ≤ s.size := by omega
    obtain ⟨i0, hi, hz0, hz1, hz2⟩ := info_parts info_json
    go_wp2_with fail
    go_loopw [] (fun wr => RowKit.Hid (ArrInv d g b E dp s (x :: rest) w wr)) (fun wr => s.size - rdAt wr g)
    case atStart => exact Lib.hid ⟨[], x, rest, [], u, q, .slice none 0 0, rfl, fun _ h => absurd h (by simp), HI.out, HL3.out, by rw [HQ.out, ← hE]; rfl, HR4.out, HJ4.out, HJ84.out, rows_nil d _ _, HG4.out⟩
    case round =>
      obtain ⟨done, x1, rest1, wsx, ut, q1, vk, hdone, hwsx, hit, hl5, hE5, hr5, hj5, hj85, hrows, hg5⟩ := hrel.out
      obtain ⟨u2, s2, cN, tl, hx2, hs2', hut, hnext⟩ := items_next hit 93
      rw [hut] at hl5
      obtain ⟨T, hT⟩ : ∃ T, tr d x1 = T := ⟨_, rfl⟩
      obtain ⟨q2, hq2e⟩ : ∃ q2, q1 + wsx.length + u2.length = q2 := ⟨_, rfl⟩
      have hl6 : LiesAt s q2 (s2 ++ cN :: tl) := by rw [← hq2e]; exact hl5.drop.drop
      have hl7 : LiesAt s q1 (wsx ++ u2) := by
        have h0 := hl5
        rw [show wsx ++ (u2 ++ (s2 ++ cN :: tl)) = (wsx ++ u2) ++ (s2 ++ cN :: tl) from by simp] at h0
        exact h0.left
      have hcN : cN = 44 ∨ cN = 93 := by rcases hnext with ⟨h, _⟩ | ⟨h, _⟩; exact .inr h; exact .inl h
      have hst : Stop (byteAt s (q1 + wsx.length + u2.length)) := by rw [hq2e]; exact ws_stop hs2' hl6 (by omega)
      have hcall := HV.out x1 u2 hx2 g q1 dp s wsx wr hr5 hs hdp hwsx hl7 hst
      rw [hT, hq2e] at hcall
      obtain ⟨q3, hq3e⟩ : ∃ q3, q2 + s2.length = q3 := ⟨_, rfl⟩
      have hcc := hl6.drop.head
      rw [hq3e] at hcc
      have hlen : q3 + 1 + tl.length = E := by
        have := congrArg List.length hut
        simp only [List.length_append, List.length_cons, List.length_nil] at this
        omega
      have hdl : done.length ≤ 3 := by
        have := congrArg List.length hdone
        simp only [List.length_append, List.length_cons] at this hll
        omega
      have HCALL := Lib.hid hcall
      have HR := Lib.hid hr5
      have HJ := Lib.hid hj5
      have HJ8 := Lib.hid hj85
      have HROWS := Lib.hid hrows
      have HG := Lib.hid hg5
      have HL6 := Lib.hid hl6
      have HNEXT := Lib.hid hnext
      have HDONE := Lib.hid hdone
      have HS2 := Lib.hid hs2'
      have HC9 := Lib.hid hcc.2
      have HT := Lib.hid hT
      have hq3s : q3 + 1 ≤ s.size := by have := hcc.1; omega
      have HRW := Lib.hid hr5
      have HQ12 : q1 ≤ q2 := by omega
      have HQ23 : q2 ≤ q3 := by omega
      have hq13 : q1 ≤ q3 := by omega
      have hrs := hr5.lt
      have hbs := hj85.lt
      clear hrel hit hl5 hE5 hr5 hj5 hj85 hrows hg5 hut hl6 hl7 hst hcall hcc hx2 hs2' hnext hdone hT hq2e
      go_wp2_with fail
      refine HCALL.out.mono ?_
      rintro e w5 ⟨vi, rfl, hrows5, hr6, hg6⟩
      obtain ⟨ao, vn, vc, rfl⟩ := hrows5.form
      unfold agg
      have HR6 := Lib.hid hr6
      have HJ6 := Lib.hid (HJ.out.keep (hg6.block b HJ.out.lt (fun e => by injection e with e; omega)))
      have HJ86 := Lib.hid (HJ8.out.keep (hg6.block (b + 1) HJ8.out.lt (fun e => by injection e with e; omega)))
      have HG6 := Lib.hid (grownBy_trans HG.out hg6)
      have HROWSK := Lib.hid (rows_grown HROWS.out hg6 (by omega))
      have HROWST := Lib.hid hrows5
      have hsz5 := hg6.size
      have hvi1 := hrows5.slice
      clear hrows5 hr6 hg6 HCALL HJ HJ8 HR HG
      have zz2 := HJ86.out.c2
      have hb5 : b + 1 < w5.heap.size := HJ86.out.lt
      have hb6 : ¬ b + 1 = w5.heap.size := by omega
      have hg5 : g < w5.heap.size := HR6.out.lt
      have hg6 : ¬ g = w5.heap.size := by omega
      have yy2 := HJ86.out.fz 2
      obtain ⟨ko, kn, kc, rfl⟩ := HROWSK.out.form
      obtain ⟨xs, hown0, hkids⟩ := HROWSK.out
      obtain ⟨C, hC⟩ : ∃ C, Obj.cells #[.int .u8 T.k, .string T.t, .slice ao vn vc, .string T.u] 27 = C := ⟨_, rfl⟩
      obtain ⟨wA, hA⟩ : ∃ W, (w5.alloc C).alloc C = W := ⟨_, rfl⟩
      have hgA : w5.grownBy wA none := by rw [← hA]; exact grownBy_trans (World.grownBy_alloc _ _ _) (World.grownBy_alloc _ _ _)
      have hsA : wA.heap.size = w5.heap.size + 2 := by rw [← hA]; simp
      have hfrm : ∀ k, k < w5.heap.size → wA.heap[k]? = w5.heap[k]? := fun k hk => hgA.block k hk (by simp)
      rw [List.length_map] at hown0
      have hownA : wA.ownsRow 0 27 4 (.slice ko kn kc) done.length xs := ownsRow_frame hown0.1 fun k e => hfrm k (hown0.2 k e).2
      have HKA := Lib.hid (show ∀ i t, (done.map (tr d))[i]? = some t → ∃ vi, (xs.drop (i * 4)).take 4 = nodeL t vi ∧ Rows d wA (fun k => InW (b + 2) wA k ∧ (Value.slice ko kn kc).ownBlock ≠ some k) vi t.ks from fun i t ht => by
        obtain ⟨vi, h1, h2⟩ := hkids i t ht
        exact ⟨vi, h1, (h2.frame fun k hk => hfrm k hk.1.2).mono fun k hk => ⟨⟨hk.1.1, by have := hk.1.2; omega⟩, hk.2⟩⟩)
      have HOA := Lib.hid (show Owns wA (InW (b + 2) wA) (.slice ko kn kc) (done.map (tr d)).length xs from ⟨by rw [List.length_map]; exact hownA, fun k e => ⟨(hown0.2 k e).1, by have := (hown0.2 k e).2; omega⟩⟩)
      have HTA := Lib.hid (show Rows d wA (fun k => InW (b + 2) wA k ∧ (Value.slice ko kn kc).ownBlock ≠ some k) (.slice ao vn vc) T.ks from (HROWST.out.frame fun k hk => hfrm k hk.2).mono fun k hk => ⟨⟨by have := hk.1; omega, by have := hk.2; omega⟩, fun e => by
        have h1 := (HROWS.out.owned _ e).2
        have := hk.1
        omega⟩)
      have hnews : ∀ j u, (nodeL T (.slice ao vn vc))[j]? = some u → wA.cell? ((⟨w5.heap.size + 1, 0, none⟩ : Addr).add j) = some u := by
        rw [← hA, ← hC, show w5.heap.size + 1 = (w5.alloc (Obj.cells #[.int .u8 T.k, .string T.t, .slice ao vn vc, .string T.u] 27)).heap.size from by simp]
        exact node_lies _ T _
      have HNW := Lib.hid hnews
      have HOWN := Lib.hid hownA
      have HA := Lib.hid hA
      have HGA := Lib.hid hgA
      have HSA := Lib.hid hsA
      have HFA := Lib.hid hfrm
      have HC2 := Lib.hid hC
      have HJA := Lib.hid (HJ6.out.keep (hfrm b (by omega)))
      have HJ8A := Lib.hid (HJ86.out.keep (hfrm (b + 1) (by omega)))
      have HRA := Lib.hid (HR6.out.keep (hfrm g (by omega)))
      have HNO := Lib.hid (show ∀ k, k ≤ b + 1 → some k ≠ (Value.slice ko kn kc).ownBlock from fun k hk e => by have := (HROWS.out.owned k e.symm).1; omega)
      have hsA2 : b + 1 < wA.heap.size := by omega
      clear hA hgA hsA hfrm hown0 hownA hnews hkids hC
      go_wp2_with (at_builtin; rw [HC2.out, HA.out]; refine wpList_append_lies _ rfl _ _ _ rfl 0 27 i0 (.agg #[.int .u8 0, .string ⟨#[]⟩, .slice none 0 0, .string ⟨#[]⟩]) 4 64 Tryz.underlying25 hi hz0 hz1 hz2 rfl (by omega) (.slice ko kn kc) done.length xs rfl HOWN.out ⟨w5.heap.size + 1, 0, none⟩ 1 1 (nodeL T (.slice ao vn vc)) rfl rfl HNW.out (node_one T rfl) (by omega) (by unfold maxLen; omega) (by omega) (Nat.zero_le _) (w5.heap.size + 2) HSA.out ?_; intro gA cap w6 hown hgrow hpl hlt6; have HJ7 := Lib.hid (HJA.out.keep (hgrow.block b (by omega) (HNO.out b (by omega)))); have HJ87 := Lib.hid (HJ8A.out.keep (hgrow.block (b + 1) (by omega) (HNO.out (b + 1) (by omega)))); have HR7 := Lib.hid (HRA.out.keep (hgrow.block g (by omega) (HNO.out g (by omega)))); have zz7 := HJ87.out.c2; have yy7 := HJ87.out.fz 2; have HOWN6 := Lib.hid hown; have HGR6 := Lib.hid hgrow; have HPL6 := Lib.hid hpl; clear hown hgrow hpl)
      obtain ⟨vN, hvN⟩ : ∃ v, Value.slice (some ⟨gA, 0, none⟩) (done.length + 1) cap = v := ⟨_, rfl⟩
      obtain ⟨wS, hwS⟩ : ∃ W, w6.setCell ⟨b + 1, 2, none⟩ vN = W := ⟨_, rfl⟩
      have hrowsN : Rows (d + 1) w6 (InW (b + 2) w6) vN ((done ++ [x1]).map (tr d)) := by
        have h1 := rows_snoc (lo := b + 2) (w := wA) (w' := w6) (g := gA) (cap := cap) (t := T) (vi := .slice ao vn vc) (by have := HSA.out; omega) HOA.out HKA.out HTA.out (by rw [List.length_map]; exact HOWN6.out) HGR6.out (by rw [HSA.out]; exact HPL6.out) hlt6
        rw [List.length_map, hvN] at h1
        rw [List.map_append, List.map_cons, List.map_nil, HT.out]
        exact h1
      have HRN := Lib.hid (show Rows (d + 1) wS (InW (b + 2) wS) vN ((done ++ [x1]).map (tr d)) from by rw [← hwS]; exact rows_set hrowsN (by omega))
      have HJS := Lib.hid (show JB wS b 0 ⟨#[]⟩ (.slice none 0 0) ⟨#[]⟩ from by rw [← hwS]; exact HJ7.out.keep (Below.heap_setCell _ _ _ _ (by show b ≠ b + 1; omega)))
      have HJ8S := Lib.hid (show JB wS (b + 1) 97 ⟨#[]⟩ vN ⟨#[]⟩ from by rw [← hwS]; exact HJ87.out.put2 vN)
      have HRS := Lib.hid (show Rd wS g s q2 dp from by rw [← hwS]; exact HR7.out.keep (Below.heap_setCell _ _ _ _ (by show g ≠ b + 1; omega)))
      have HGS := Lib.hid (show w.grownBy wS (some g) from by
        rw [← hwS]
        exact grownBy_new (grownBy_own (grownBy_trans HG6.out (grownBy_none (g := g) HGA.out)) HGR6.out (fun k e => by have := (HROWS.out.owned k e).1; omega)) (by omega) _)
      rw [hvN, hwS]
      have HVN := Lib.hid hvN
      clear hvN hwS hrowsN HJ7 HJ87 HR7 HOWN6 HGR6 HPL6 zz7 yy7 zz2 yy2 hb5 hb6 hg5 hg6 HOA HKA HTA HNW HOWN HROWSK HROWST HJA HJ8A HRA HR6 HJ6 HJ86 HG6
      refine (space_at g q2 dp s _ HRS.out (by omega) (by omega)).mono ?_
      rintro e w7 ⟨rfl, q4, hq1, hq2, hq3, hq4, hr7, hg7⟩
      have hcN2 := HC9.out
      have hqq : q4 = q2 + s2.length := space_end HS2.out HL6.out (.inr (by rw [hq3e, hcN2]; unfold wsb; omega)) hq1 hq2 hq3 hq4
      rw [hq3e] at hqq
      subst hqq
      have HR7 := Lib.hid hr7
      have HJ7 := Lib.hid (HJS.out.keep (hg7.block b HJS.out.lt (fun e => by injection e with e; omega)))
      have HJ87 := Lib.hid (HJ8S.out.keep (hg7.block (b + 1) HJ8S.out.lt (fun e => by injection e with e; omega)))
      have HG7 := Lib.hid (grownBy_trans HGS.out hg7)
      have HRN7 := Lib.hid (rows_grown HRN.out hg7 (by omega))
      clear hr7 hg7 hq1 hq2 hq3 hq4 hcN2 HRS HJS HJ8S HGS HRN
      go_wp2_with fail
      refine (peek_at g q4 dp s _ HR7.out (by omega)).mono ?_
      rintro e w8 ⟨rfl, hg8⟩
      rw [HC9.out]
      have HR8 := Lib.hid (HR7.out.keep (hg8.block g HR7.out.lt (by simp)))
      have HJ8 := Lib.hid (HJ7.out.keep (hg8.block b HJ7.out.lt (by simp)))
      have HJ88 := Lib.hid (HJ87.out.keep (hg8.block (b + 1) HJ87.out.lt (by simp)))
      have HG8 := Lib.hid (grownBy_trans HG7.out (grownBy_none (g := g) hg8))
      have HRN8 := Lib.hid (rows_grown HRN7.out (grownBy_none (g := g) hg8) (by omega))
      clear hg8 HR7 HJ7 HJ87 HG7 HRN7
      have k1 := HR8.out.c1
      have kf := HR8.out.fz 1
      have z0 := HJ8.out.c0
      have y0 := HJ8.out.fz 0
      have zz0 := HJ88.out.c0
      have z1 := HJ8.out.c1
      have y1 := HJ8.out.fz 1
      have zz1 := HJ88.out.c1
      have z2 := HJ8.out.c2
      have y2 := HJ8.out.fz 2
      have zz2 := HJ88.out.c2
      have z3 := HJ8.out.c3
      have y3 := HJ8.out.fz 3
      have zz3 := HJ88.out.c3
      rcases HNEXT.out with ⟨rfl, rfl, rfl⟩ | ⟨rfl, y, r', s3, v3, rfl, hs3, hv3, rfl⟩
      · rw [← HVN.out] at zz2
        go_wp2_with fail
        (try simp only [Exit.inBlock, Exit.then])
        have hj9 : JB (w8.setCell ⟨g, 1, none⟩ (.int .i64 ((q4 : Int) + 1))) b 0 ⟨#[]⟩ (.slice none 0 0) ⟨#[]⟩ := HJ8.out.keep (Below.heap_setCell _ _ _ _ (by show b ≠ g; omega))
        refine bodyPost_ret (results_jb rfl rfl (hj9.set 97 _ _ _)) ?_ ?_
        · rfl
        · have hd9 := HDONE.out
          have hrn := HRN8.out
          rw [← HVN.out, ← hd9] at hrn
          refine ⟨_, rfl, ?_, ?_, grownBy_set4 (grownBy_trans HG8.out (grownBy_at w8 g (q4 + 1))) (by omega) _ _ _ _⟩
          · exact (rows_set (rows_set (rows_set (rows_set (rows_set hrn (show g < b + 2 by omega)) (show b < b + 2 by omega)) (show b < b + 2 by omega)) (show b < b + 2 by omega)) (show b < b + 2 by omega)).mono fun k hk => ⟨by have := hk.1; omega, hk.2⟩
          · have h0 : ([] : List Int).length = 0 := rfl
            rw [show p + 1 + sp.length + u.length + 1 = q4 + 1 from by omega]
            exact (HR8.out.at_ (q4 + 1)).keep (set4_other _ _ _ _ _ _ _ (by omega))
      · have hl9 := HL6.out.drop.tail
        rw [hq3e] at hl9
        have HL9 := Lib.hid hl9
        clear hl9
        go_wp2_with fail
        go_roundw
        case rel => exact Lib.hid ⟨done ++ [x1], y, r', s3, v3, q4 + 1, vN, by rw [HDONE.out]; simp, hs3, hv3, HL9.out, by
          have h9 := hlen
          simp only [List.length_append, List.length_cons, List.length_nil] at h9
          omega, HR8.out.at_ (q4 + 1), HJ8.out.keep (Below.heap_setCell _ _ _ _ (by show b ≠ g; omega)), HJ88.out.keep (Below.heap_setCell _ _ _ _ (by show b + 1 ≠ g; omega)), rows_set HRN8.out (by omega), grownBy_trans HG8.out (grownBy_at w8 g (q4 + 1))⟩
        case measure => exact text_meas HRW.out _ (q4 + 1) (HR8.out.at_ (q4 + 1)) (by omega) (by omega)

/-- A name with its value, as they are read. -/
noncomputable def prs (d : Nat) (p : List Int × JVal) : List JT := [.mk 115 (strMean p.1) [] ⟨#[]⟩, tr d p.2]
theorem prs_len (d : Nat) : ∀ l : List (List Int × JVal), (l.flatMap (prs d)).length = 2 * l.length
  | [] => rfl
  | p :: l => by
    rw [List.flatMap_cons, List.length_append, prs_len d l]
    simp [prs]
    omega
def JPr (d : Nat) : List Int × JVal → List Int → Prop := Pair JStr (JTx d)
def ObjInv (d g b E dp : Nat) (s : ByteArray) (l : List (List Int × JVal)) (w wr : World) : Prop := ∃ (done : List (List Int × JVal)) (x : List Int × JVal) (rest : List (List Int × JVal)) (wsx ut : List Int) (q : Nat) (vk : Value),
  l = done ++ x :: rest ∧ JWs wsx ∧ Items (JPr d) (x :: rest) ut ∧ LiesAt s q (wsx ++ (ut ++ [125])) ∧ q + wsx.length + ut.length + 1 = E ∧ Rd wr g s q dp ∧ JB wr b 0 ⟨#[]⟩ (.slice none 0 0) ⟨#[]⟩ ∧ JB wr (b + 1) 111 ⟨#[]⟩ vk ⟨#[]⟩ ∧ Rows (d + 1) wr (InW (b + 2) wr) vk (done.flatMap (prs d)) ∧ w.grownBy wr (some g)

set_option maxRecDepth 100000 in
set_option maxHeartbeats 3200000 in
theorem list_obj (d g p dp : Nat) (s : ByteArray) (l : List (List Int × JVal)) (sp u : List Int) (w : World) (hv : ValAt d) (h : Rd w g s p dp) (hs : s.size ≤ 100000) (hdp : dp + d ≤ 100) (hsp : JWs sp) (hi : Items (JPr d) l u) (hl : LiesAt s p (123 :: (sp ++ (u ++ [125])))) (hll : l.length ≤ 3) :
    Calls Tryz.prog 31 #[.pointer (some ⟨g, 0, none⟩), .int .u8 125, .int .u8 111] w (InPost (.mk 111 ⟨#[]⟩ (l.flatMap (prs d)) ⟨#[]⟩) (d + 1) g (p + 1 + sp.length + u.length + 1) dp s w) := by
  have hlt := h.lt
  have hsz := hl.1
  simp only [List.length_cons, List.length_append, List.length_nil] at hsz
  obtain ⟨W1, hW1⟩ : ∃ W, w.alloc (.cells #[.int .u8 0, .string ⟨#[]⟩, .slice none 0 0, .string ⟨#[]⟩] 27) = W := ⟨_, rfl⟩
  have hs1 : W1.heap.size = w.heap.size + 1 := by rw [← hW1]; simp
  have hj1 : JB W1 w.heap.size 0 ⟨#[]⟩ (.slice none 0 0) ⟨#[]⟩ := by rw [← hW1]; exact JB.new w
  have hr1 : Rd W1 g s p dp := by rw [← hW1]; exact h.alloc _
  have hg1 : w.grownBy W1 (some g) := by rw [← hW1]; exact World.grownBy_alloc _ _ _
  have hj1s : JB (W1.setCell ⟨g, 1, none⟩ (.int .i64 ((p : Int) + 1))) w.heap.size 0 ⟨#[]⟩ (.slice none 0 0) ⟨#[]⟩ := hj1.keep (Below.heap_setCell W1 _ _ _ (by show w.heap.size ≠ g; omega))
  have hr1s : Rd (W1.setCell ⟨g, 1, none⟩ (.int .i64 ((p : Int) + 1))) g s (p + 1) dp := hr1.at_ (p + 1)
  have hg1s : w.grownBy (W1.setCell ⟨g, 1, none⟩ (.int .i64 ((p : Int) + 1))) (some g) := grownBy_trans hg1 (grownBy_at W1 g (p + 1))
  obtain ⟨W2, hW2⟩ : ∃ W, (W1.setCell ⟨g, 1, none⟩ (.int .i64 ((p : Int) + 1))).alloc (.cells #[.int .u8 111, .string ⟨#[]⟩, .slice none 0 0, .string ⟨#[]⟩] 27) = W := ⟨_, rfl⟩
  obtain ⟨b, hb⟩ : ∃ b, w.heap.size = b := ⟨_, rfl⟩
  have hs1s : (W1.setCell ⟨g, 1, none⟩ (.int .i64 ((p : Int) + 1))).heap.size = b + 1 := by rw [World.size_setCell, hs1, hb]
  have hs2 : W2.heap.size = b + 2 := by rw [← hW2]; simp [hs1, hb]
  have hj2 : JB W2 (b + 1) 111 ⟨#[]⟩ (.slice none 0 0) ⟨#[]⟩ := by rw [← hW2, ← hs1s]; exact heap_alloc_new _ _
  rw [hb] at hj1s
  have hj3 : JB W2 b 0 ⟨#[]⟩ (.slice none 0 0) ⟨#[]⟩ := by rw [← hW2]; exact hj1s.keep (heap_alloc_old _ _ (by omega))
  have hr2 : Rd W2 g s (p + 1) dp := by rw [← hW2]; exact hr1s.alloc _
  have hg2 : w.grownBy W2 (some g) := by rw [← hW2]; exact grownBy_trans hg1s (World.grownBy_alloc _ _ _)
  rw [hb] at hs1 hlt
  have HL := Lib.hid hl
  have HI := Lib.hid hi
  have HV := Lib.hid hv
  have HSP := Lib.hid hsp
  have HJ := Lib.hid hj3
  have HJ8 := Lib.hid hj2
  have HR := Lib.hid hr2
  have HG := Lib.hid hg2
  have k1 := hr1.c1
  have kf := hr1.fz 1
  have HW2 := Lib.hid hW2
  clear hW2 h hl hi hv hsp hj1 hr1 hg1 hj2 hj3 hr2 hg2 hj1s hr1s hg1s hs1s
  go_enter Tryz.func31, Tryz.ntmps31
  go_wp2_with fail
  rw [HW2.out]
  refine (space_at g (p + 1) dp s _ HR.out (by omega) (by omega)).mono ?_
  rintro e w3 ⟨rfl, q, hq1, hq2, hq3, hq4, hr3, hg3⟩
  have hl2 := HL.out.tail
  have HR3 := Lib.hid hr3
  have HJ3 := Lib.hid (HJ.out.keep (hg3.block b (by omega) (fun e => by injection e with e; omega)))
  have HJ83 := Lib.hid (HJ8.out.keep (hg3.block (b + 1) (by omega) (fun e => by injection e with e; omega)))
  have HG3 := Lib.hid (grownBy_trans HG.out hg3)
  have hs3 := hg3.size
  clear hr3 hg3 HR HJ HJ8 HG
  cases l with
  | nil =>
    have hu : u = [] := HI.out
    subst hu
    have hc := (show LiesAt s (p + 1 + sp.length) (125 :: []) from hl2.drop).head
    have hq : q = p + 1 + sp.length := space_end HSP.out hl2 (.inr (by rw [hc.2]; unfold wsb; omega)) hq1 hq2 hq3 hq4
    have HQ := Lib.hid hq
    have HC := Lib.hid (show byteAt s q = 125 from by rw [hq]; exact hc.2)
    have hqs : q + 1 ≤ s.size := by have := hc.1; omega
    clear hl2 hc hq hq1 hq2 hq3 hq4
    go_wp2_with fail
    refine (peek_at g q dp s _ HR3.out (by omega)).mono ?_
    rintro e w4 ⟨rfl, hg4⟩
    rw [HC.out]
    have HR4 := Lib.hid (HR3.out.keep (hg4.block g HR3.out.lt (by simp)))
    have HJ4 := Lib.hid (HJ3.out.keep (hg4.block b HJ3.out.lt (by simp)))
    have HJ84 := Lib.hid (HJ83.out.keep (hg4.block (b + 1) HJ83.out.lt (by simp)))
    have HG4 := Lib.hid (grownBy_trans HG3.out (grownBy_none (g := g) hg4))
    clear hg4 HR3 HJ3 HJ83 HG3
    have k1 := HR4.out.c1
    have kf := HR4.out.fz 1
    have z0 := HJ4.out.c0
    have y0 := HJ4.out.fz 0
    have zz0 := HJ84.out.c0
    have z1 := HJ4.out.c1
    have y1 := HJ4.out.fz 1
    have zz1 := HJ84.out.c1
    have z2 := HJ4.out.c2
    have y2 := HJ4.out.fz 2
    have zz2 := HJ84.out.c2
    have z3 := HJ4.out.c3
    have y3 := HJ4.out.fz 3
    have zz3 := HJ84.out.c3
    go_wp2_with fail
    (try simp only [Exit.inBlock, Exit.then])
    have hj5 : JB (w4.setCell ⟨g, 1, none⟩ (.int .i64 ((q : Int) + 1))) b 0 ⟨#[]⟩ (.slice none 0 0) ⟨#[]⟩ := HJ4.out.keep (Below.heap_setCell _ _ _ _ (by show b ≠ g; omega))
    refine bodyPost_ret (results_jb rfl rfl (hj5.set 111 _ _ _)) ?_ ?_
    · rfl
    · refine ⟨.slice none 0 0, rfl, rows_nil d _ _, ?_, grownBy_set4 (grownBy_trans HG4.out (grownBy_at w4 g (q + 1))) (by omega) _ _ _ _⟩
      rw [show p + 1 + sp.length + ([] : List Int).length + 1 = q + 1 from by rw [HQ.out]; rfl]
      exact (HR4.out.at_ (q + 1)).keep (set4_other _ _ _ _ _ _ _ (by omega))
  | cons x rest =>
    obtain ⟨u1, s1, hx1, hs1', hrest⟩ := items_head HI.out
    obtain ⟨c, r, hc, hcO⟩ : ∃ c r, u1 = c :: r ∧ Opens c := by
      obtain ⟨_, _, _, ⟨_, _, _, _, hk⟩, _, _, _, rfl⟩ := hx1
      rw [hk]
      exact ⟨34, _, rfl, .inl rfl⟩
    obtain ⟨u', hu'⟩ : ∃ u', u = c :: u' := by
      rcases hrest with ⟨_, h⟩ | ⟨_, _, _, _, _, _, _, h⟩ <;> exact ⟨_, by rw [h, hc]; rfl⟩
    have hcc := (show LiesAt s (p + 1 + sp.length) (c :: (u' ++ [125])) from by have := hl2.drop; rw [hu'] at this; exact this).head
    have hq : q = p + 1 + sp.length := space_end HSP.out hl2 (.inr (by rw [hcc.2]; exact opens_no_ws hcO)) hq1 hq2 hq3 hq4
    have HC := Lib.hid (show byteAt s q = c from by rw [hq]; exact hcc.2)
    have f93 : (c == 125) = false := by unfold Opens isDg at hcO; simp; omega
    have HQ := Lib.hid hq
    have HL3 := Lib.hid (show LiesAt s q ([] ++ (u ++ [125])) from by rw [hq]; exact hl2.drop)
    have hqs : q ≤ s.size := hq2
    clear hl2 hcc hq hq1 hq2 hq3 hq4 hrest hx1 hcO hc hu' hs1'
    go_wp2_with fail
    refine (peek_at g q dp s _ HR3.out (by omega)).mono ?_
    rintro e w4 ⟨rfl, hg4⟩
    rw [HC.out]
    have HR4 := Lib.hid (HR3.out.keep (hg4.block g HR3.out.lt (by simp)))
    have HJ4 := Lib.hid (HJ3.out.keep (hg4.block b HJ3.out.lt (by simp)))
    have HJ84 := Lib.hid (HJ83.out.keep (hg4.block (b + 1) HJ83.out.lt (by simp)))
    have HG4 := Lib.hid (grownBy_trans HG3.out (grownBy_none (g := g) hg4))
    clear hg4 HR3 HJ3 HJ83 HG3
    obtain ⟨E, hE⟩ : ∃ E, p + 1 + sp.length + u.length + 1 = E := ⟨_, rfl⟩
    rw [hE]
    have hEs : E ≤ s.size := by omega
    obtain ⟨i0, hi, hz0, hz1, hz2⟩ := info_parts info_json
    go_wp2_with fail
    go_loopw [] (fun wr => RowKit.Hid (ObjInv d g b E dp s (x :: rest) w wr)) (fun wr => s.size - rdAt wr g)
    case atStart => exact Lib.hid ⟨[], x, rest, [], u, q, .slice none 0 0, rfl, fun _ h => absurd h (by simp), HI.out, HL3.out, by rw [HQ.out, ← hE]; rfl, HR4.out, HJ4.out, HJ84.out, rows_nil d _ _, HG4.out⟩
    case round =>
      obtain ⟨done, x1, rest1, wsx, ut, q1, vk, hdone, hwsx, hit, hl5, hE5, hr5, hj5, hj85, hrows, hg5⟩ := hrel.out
      obtain ⟨u2, s2, cN, tl, ⟨sa, sb, ua, hkey, hsa, hsb, hua, hu2⟩, hs2', hut, hnext⟩ := items_next hit 125
      obtain ⟨us, hus, huok, hmean⟩ := strMean_units hkey
      rw [hut, hu2] at hl5
      obtain ⟨T, hT⟩ : ∃ T, tr d x1.2 = T := ⟨_, rfl⟩
      obtain ⟨qa, hqa⟩ : ∃ q, q1 + wsx.length = q := ⟨_, rfl⟩
      obtain ⟨qb, hqb⟩ : ∃ q, qa + x1.1.length = q := ⟨_, rfl⟩
      obtain ⟨qc, hqc⟩ : ∃ q, qb + sa.length = q := ⟨_, rfl⟩
      obtain ⟨q2, hq2e⟩ : ∃ q2, qc + 1 + sb.length + ua.length = q2 := ⟨_, rfl⟩
      obtain ⟨q3, hq3e⟩ : ∃ q3, q2 + s2.length = q3 := ⟨_, rfl⟩
      have e1 : wsx ++ (x1.1 ++ sa ++ 58 :: sb ++ ua ++ (s2 ++ cN :: tl)) = wsx ++ (x1.1 ++ (sa ++ 58 :: (sb ++ (ua ++ (s2 ++ cN :: tl))))) := by simp
      rw [e1] at hl5
      have hla := hl5.drop
      rw [hqa] at hla
      have hlb := hla.drop
      rw [hqb] at hlb
      have hlc := hlb.drop
      rw [hqc] at hlc
      have hlv := hlc.tail
      have hl6 : LiesAt s q2 (s2 ++ cN :: tl) := by rw [← hq2e]; exact hlv.drop.drop
      have hl7 : LiesAt s (qc + 1) (sb ++ ua) := by
        have h0 := hlv
        rw [show sb ++ (ua ++ (s2 ++ cN :: tl)) = (sb ++ ua) ++ (s2 ++ cN :: tl) from by simp] at h0
        exact h0.left
      have hls : LiesAt s (qa + 1) (flat us ++ [34]) := by
        have h0 := hla.left
        rw [hus] at h0
        exact (show LiesAt s qa (34 :: (flat us ++ [34])) from h0).tail
      have hqa34 : byteAt s qa = 34 := by
        have h0 := hla.left
        rw [hus] at h0
        exact (show LiesAt s qa (34 :: (flat us ++ [34])) from h0).head.2
      have hqb2 : qa + 2 + (flat us).length = qb := by rw [← hqb, hus]; simp; omega
      have hcN : cN = 44 ∨ cN = 125 := by rcases hnext with ⟨h, _⟩ | ⟨h, _⟩; exact .inr h; exact .inl h
      have hst : Stop (byteAt s (qc + 1 + sb.length + ua.length)) := by rw [hq2e]; exact ws_stop hs2' hl6 (by omega)
      have hcc := hl6.drop.head
      rw [hq3e] at hcc
      have hlen : q3 + 1 + tl.length = E := by
        have := congrArg List.length hut
        rw [hu2] at this
        simp only [List.length_append, List.length_cons, List.length_nil] at this
        omega
      have hdl : done.length ≤ 3 := by
        have := congrArg List.length hdone
        simp only [List.length_append, List.length_cons] at this hll
        omega
      obtain ⟨d', rfl⟩ : ∃ d', d = d' + 1 := by
        cases d with
        | zero => exact hua.elim
        | succ d' => exact ⟨d', rfl⟩
      obtain ⟨K0, hK0⟩ : ∃ K, done.flatMap (prs (d' + 1)) = K := ⟨_, rfl⟩
      have hK0l : K0.length ≤ 6 := by rw [← hK0, prs_len]; omega
      rw [hK0] at hrows
      have HCALL := Lib.hid (fun wq (hrq : Rd wq g s (qc + 1) dp) => HV.out x1.2 ua hua g (qc + 1) dp s sb wq hrq hs hdp hsb hl7 hst)
      have HR := Lib.hid hr5
      have HRW := Lib.hid hr5
      have HJ := Lib.hid hj5
      have HJ8 := Lib.hid hj85
      have HROWS := Lib.hid hrows
      have HG := Lib.hid hg5
      have HL6 := Lib.hid hl6
      have HL5 := Lib.hid hl5
      have HLB := Lib.hid hlb
      have HLS := Lib.hid hls
      have HUOK := Lib.hid huok
      have HNEXT := Lib.hid hnext
      have HDONE := Lib.hid hdone
      have HK0 := Lib.hid hK0
      have HS2 := Lib.hid hs2'
      have HSA9 := Lib.hid hsa
      have HWSX := Lib.hid hwsx
      have HC9 := Lib.hid hcc.2
      have HCA := Lib.hid hqa34
      have HCC := Lib.hid hlc.head.2
      have HT := Lib.hid hT
      have hq3s : q3 + 1 ≤ s.size := by have := hcc.1; omega
      have HQ12 : q1 ≤ q2 := by omega
      have HQ23 : q2 ≤ q3 := by omega
      have hq13 : q1 ≤ q3 := by omega
      have hrs := hr5.lt
      have hbs := hj85.lt
      have hqas : qa ≤ s.size := by omega
      have hqbs : qb ≤ s.size := by omega
      have hqcs : qc + 1 ≤ s.size := by omega
      have hmsz : (strOfNums (means us)).size ≤ 100000 := by
        have h1 := means_len us
        rw [str_size]
        omega
      obtain ⟨nm, hnm⟩ : ∃ nm, strOfNums (means us) = nm := ⟨_, rfl⟩
      rw [hnm] at hmsz hmean
      have HNM := Lib.hid hnm
      have HMEAN := Lib.hid hmean
      have HQ9 := Lib.hid (And.intro hqa (And.intro hqb (And.intro hqc (And.intro hq2e hqb2))))
      clear hrel hit hl5 hE5 hr5 hj5 hj85 hrows hg5 hut hl6 hl7 hst hcc hs2' hnext hdone hT hq2e hqa hqb hqc hla hlb hlc hlv hls hqa34 hkey hsa hsb hua hu2 hus huok hmean e1 hK0 hwsx hnm hqb2
      go_wp2_with fail
      refine (space_at g q1 dp s _ HR.out (by omega) (by omega)).mono ?_
      rintro e w5 ⟨rfl, qx, hq1, hq2, hq3, hq4, hr6, hg6⟩
      have hqx : qx = q1 + wsx.length := space_end HWSX.out HL5.out (.inr (by rw [HQ9.out.1, HCA.out]; unfold wsb; omega)) hq1 hq2 hq3 hq4
      rw [HQ9.out.1] at hqx
      subst hqx
      have HR6 := Lib.hid hr6
      have HJ6 := Lib.hid (HJ.out.keep (hg6.block b HJ.out.lt (fun e => by injection e with e; omega)))
      have HJ86 := Lib.hid (HJ8.out.keep (hg6.block (b + 1) HJ8.out.lt (fun e => by injection e with e; omega)))
      have HG6 := Lib.hid (grownBy_trans HG.out hg6)
      have HRK6 := Lib.hid (rows_grown HROWS.out hg6 (by omega))
      clear hr6 hg6 hq1 hq2 hq3 hq4 HR HJ HJ8 HG HROWS
      go_wp2_with fail
      refine (peek_at g qx dp s _ HR6.out (by omega)).mono ?_
      rintro e w6 ⟨rfl, hg6⟩
      rw [HCA.out]
      have HR7 := Lib.hid (HR6.out.keep (hg6.block g HR6.out.lt (by simp)))
      have HJ7 := Lib.hid (HJ6.out.keep (hg6.block b HJ6.out.lt (by simp)))
      have HJ87 := Lib.hid (HJ86.out.keep (hg6.block (b + 1) HJ86.out.lt (by simp)))
      have HG7 := Lib.hid (grownBy_trans HG6.out (grownBy_none (g := g) hg6))
      have HRK7 := Lib.hid (rows_grown HRK6.out (grownBy_none (g := g) hg6) (by omega))
      clear hg6 HR6 HJ6 HJ86 HG6 HRK6
      go_wp2_with fail
      refine (text_at g qx dp s us _ HR7.out (by omega) HLS.out HUOK.out).mono ?_
      rintro e w7 ⟨rfl, hr6, hg6⟩
      rw [HNM.out]
      rw [HQ9.out.2.2.2.2] at hr6
      have HR8 := Lib.hid hr6
      have HJ8 := Lib.hid (HJ7.out.keep (hg6.block b HJ7.out.lt (fun e => by injection e with e; omega)))
      have HJ88 := Lib.hid (HJ87.out.keep (hg6.block (b + 1) HJ87.out.lt (fun e => by injection e with e; omega)))
      have HG8 := Lib.hid (grownBy_trans HG7.out hg6)
      have HRK8 := Lib.hid (rows_grown HRK7.out hg6 (by omega))
      clear hr6 hg6 HR7 HJ7 HJ87 HG7 HRK7 HLS HUOK
      go_wp2_with fail
      refine (space_at g qb dp s _ HR8.out (by omega) (by omega)).mono ?_
      rintro e w8 ⟨rfl, qy, hq1, hq2, hq3, hq4, hr6, hg6⟩
      have hqy : qy = qb + sa.length := space_end HSA9.out HLB.out (.inr (by rw [HQ9.out.2.2.1, HCC.out]; unfold wsb; omega)) hq1 hq2 hq3 hq4
      rw [HQ9.out.2.2.1] at hqy
      subst hqy
      have HR9 := Lib.hid hr6
      have HJ9 := Lib.hid (HJ8.out.keep (hg6.block b HJ8.out.lt (fun e => by injection e with e; omega)))
      have HJ89 := Lib.hid (HJ88.out.keep (hg6.block (b + 1) HJ88.out.lt (fun e => by injection e with e; omega)))
      have HG9 := Lib.hid (grownBy_trans HG8.out hg6)
      have HRK9 := Lib.hid (rows_grown HRK8.out hg6 (by omega))
      clear hr6 hg6 hq1 hq2 hq3 hq4 HR8 HJ8 HJ88 HG8 HRK8
      go_wp2_with fail
      refine (peek_at g qy dp s _ HR9.out (by omega)).mono ?_
      rintro e w9 ⟨rfl, hg6⟩
      rw [HCC.out]
      have hr10 := HR9.out.keep (hg6.block g HR9.out.lt (by simp))
      have hj10 := HJ9.out.keep (hg6.block b HJ9.out.lt (by simp))
      have hj810 := HJ89.out.keep (hg6.block (b + 1) HJ89.out.lt (by simp))
      have hg10 := grownBy_trans HG9.out (grownBy_none (g := g) hg6)
      have hrk10 := rows_grown HRK9.out (grownBy_none (g := g) hg6) (by omega)
      obtain ⟨wp, hwp⟩ : ∃ W, w9.setCell ⟨g, 1, none⟩ (.int .i64 ((qy : Int) + 1)) = W := ⟨_, rfl⟩
      have HRp := Lib.hid (show Rd wp g s (qy + 1) dp from by rw [← hwp]; exact hr10.at_ (qy + 1))
      have HJp := Lib.hid (show JB wp b 0 ⟨#[]⟩ (.slice none 0 0) ⟨#[]⟩ from by rw [← hwp]; exact hj10.keep (Below.heap_setCell _ _ _ _ (by show b ≠ g; omega)))
      have HJ8p := Lib.hid (show JB wp (b + 1) 111 ⟨#[]⟩ vk ⟨#[]⟩ from by rw [← hwp]; exact hj810.keep (Below.heap_setCell _ _ _ _ (by show b + 1 ≠ g; omega)))
      have HGp := Lib.hid (show w.grownBy wp (some g) from by rw [← hwp]; exact grownBy_trans hg10 (grownBy_at w9 g (qy + 1)))
      have HRKp := Lib.hid (show Rows (d' + 1 + 1) wp (InW (b + 2) wp) vk K0 from by rw [← hwp]; exact rows_set hrk10 (by omega))
      have k1 := hr10.c1
      have kf := hr10.fz 1
      clear hg6 HR9 HJ9 HJ89 HG9 HRK9 hr10 hj10 hj810 hg10 hrk10
      obtain ⟨koa, kna, kca, hka⟩ := HRKp.out.form
      have HKa := Lib.hid hka
      have zz2 := HJ8p.out.c2
      have hb5 : b + 1 < wp.heap.size := HJ8p.out.lt
      have hb6 : ¬ b + 1 = wp.heap.size := by omega
      have hg5 : g < wp.heap.size := HRp.out.lt
      have hg6 : ¬ g = wp.heap.size := by omega
      rw [hka] at zz2
      have HROWSx := Lib.hid (show Rows (d' + 1 + 1) wp (InW (b + 2) wp) (.slice koa kna kca) K0 from by rw [← hka]; exact HRKp.out)
      obtain ⟨xsa, hown0, hkids⟩ := HROWSx.out
      obtain ⟨Ca, hC⟩ : ∃ C, Obj.cells #[.int .u8 115, .string nm, .slice none 0 0, .string ⟨#[]⟩] 27 = C := ⟨_, rfl⟩
      obtain ⟨wAa, hA⟩ : ∃ W, wp.alloc Ca = W := ⟨_, rfl⟩
      have hgA : wp.grownBy wAa none := by rw [← hA]; exact World.grownBy_alloc _ _ _
      have hsA : wAa.heap.size = wp.heap.size + 1 := by rw [← hA]; simp
      have hfrm : ∀ k, k < wp.heap.size → wAa.heap[k]? = wp.heap[k]? := fun k hk => hgA.block k hk (by simp)
      have hownA : wAa.ownsRow 0 27 4 (.slice koa kna kca) K0.length xsa := ownsRow_frame hown0.1 fun k e => hfrm k (hown0.2 k e).2
      have HKA := Lib.hid (show ∀ i t, K0[i]? = some t → ∃ vi, (xsa.drop (i * 4)).take 4 = nodeL t vi ∧ Rows (d' + 1) wAa (fun k => InW (b + 2) wAa k ∧ (Value.slice koa kna kca).ownBlock ≠ some k) vi t.ks from fun i t ht => by
        obtain ⟨vi, h1, h2⟩ := hkids i t ht
        exact ⟨vi, h1, (h2.frame fun k hk => hfrm k hk.1.2).mono fun k hk => ⟨⟨hk.1.1, by have := hk.1.2; omega⟩, hk.2⟩⟩)
      have HOA := Lib.hid (show Owns wAa (InW (b + 2) wAa) (.slice koa kna kca) K0.length xsa from ⟨hownA, fun k e => ⟨(hown0.2 k e).1, by have := (hown0.2 k e).2; omega⟩⟩)
      have HTA := Lib.hid (show Rows (d' + 1) wAa (fun k => InW (b + 2) wAa k ∧ (Value.slice koa kna kca).ownBlock ≠ some k) (.slice none 0 0) (JT.mk 115 nm [] ⟨#[]⟩).ks from rows_nil d' _ _)
      have hnews : ∀ j u, (nodeL (JT.mk 115 nm [] ⟨#[]⟩) (.slice none 0 0))[j]? = some u → wAa.cell? ((⟨wp.heap.size, 0, none⟩ : Addr).add j) = some u := by
        rw [← hA, ← hC]
        exact node_lies _ (JT.mk 115 nm [] ⟨#[]⟩) _
      have HNW := Lib.hid hnews
      have HOWN := Lib.hid hownA
      have HA := Lib.hid hA
      have HGAa := Lib.hid hgA
      have HSA := Lib.hid hsA
      have HC2 := Lib.hid hC
      have HJA := Lib.hid (HJp.out.keep (hfrm b (by omega)))
      have HJ8A := Lib.hid (HJ8p.out.keep (hfrm (b + 1) (by omega)))
      have HRA := Lib.hid (HRp.out.keep (hfrm g (by omega)))
      have HNO := Lib.hid (show ∀ k, k ≤ b + 1 → some k ≠ (Value.slice koa kna kca).ownBlock from fun k hk e => by have := (HROWSx.out.owned k e.symm).1; omega)
      have hsA2 : b + 1 < wAa.heap.size := by omega
      clear hA hgA hsA hfrm hown0 hownA hnews hkids hC hka
      go_wp2_with (at_builtin; rw [HC2.out, HA.out]; refine wpList_append_lies _ rfl _ _ _ rfl 0 27 i0 (.agg #[.int .u8 0, .string ⟨#[]⟩, .slice none 0 0, .string ⟨#[]⟩]) 4 64 Tryz.underlying25 hi hz0 hz1 hz2 rfl (by omega) (.slice koa kna kca) K0.length xsa rfl HOWN.out ⟨wp.heap.size, 0, none⟩ 1 1 (nodeL (JT.mk 115 nm [] ⟨#[]⟩) (.slice none 0 0)) rfl rfl HNW.out (node_one (JT.mk 115 nm [] ⟨#[]⟩) rfl) (by omega) (by unfold maxLen; omega) (by omega) (Nat.zero_le _) (wp.heap.size + 1) HSA.out ?_; intro gAa capa w6a hown hgrow hpl hlt6; have HJ7 := Lib.hid (HJA.out.keep (hgrow.block b (by omega) (HNO.out b (by omega)))); have HJ87 := Lib.hid (HJ8A.out.keep (hgrow.block (b + 1) (by omega) (HNO.out (b + 1) (by omega)))); have HR7 := Lib.hid (HRA.out.keep (hgrow.block g (by omega) (HNO.out g (by omega)))); have zz7 := HJ87.out.c2; have yy7 := HJ87.out.fz 2; have HOWN6 := Lib.hid hown; have HGR6 := Lib.hid hgrow; have HPL6 := Lib.hid hpl; clear hown hgrow hpl)
      obtain ⟨vNa, hvN⟩ : ∃ v, Value.slice (some ⟨gAa, 0, none⟩) (K0.length + 1) capa = v := ⟨_, rfl⟩
      obtain ⟨wSa, hwS⟩ : ∃ W, w6a.setCell ⟨b + 1, 2, none⟩ vNa = W := ⟨_, rfl⟩
      have hrowsN : Rows (d' + 1 + 1) w6a (InW (b + 2) w6a) vNa (K0 ++ [(JT.mk 115 nm [] ⟨#[]⟩)]) := by
        have h1 := rows_snoc (lo := b + 2) (w := wAa) (w' := w6a) (g := gAa) (cap := capa) (t := (JT.mk 115 nm [] ⟨#[]⟩)) (vi := (.slice none 0 0)) (by have := HSA.out; omega) HOA.out HKA.out HTA.out HOWN6.out HGR6.out (by rw [HSA.out]; exact HPL6.out) hlt6
        rw [hvN] at h1
        exact h1
      have HRNa := Lib.hid (show Rows (d' + 1 + 1) wSa (InW (b + 2) wSa) vNa (K0 ++ [(JT.mk 115 nm [] ⟨#[]⟩)]) from by rw [← hwS]; exact rows_set hrowsN (by omega))
      have HJSa := Lib.hid (show JB wSa b 0 ⟨#[]⟩ (.slice none 0 0) ⟨#[]⟩ from by rw [← hwS]; exact HJ7.out.keep (Below.heap_setCell _ _ _ _ (by show b ≠ b + 1; omega)))
      have HJ8Sa := Lib.hid (show JB wSa (b + 1) 111 ⟨#[]⟩ vNa ⟨#[]⟩ from by rw [← hwS]; exact HJ87.out.put2 vNa)
      have HRSa := Lib.hid (show Rd wSa g s (qy + 1) dp from by rw [← hwS]; exact HR7.out.keep (Below.heap_setCell _ _ _ _ (by show g ≠ b + 1; omega)))
      have HGSa := Lib.hid (show w.grownBy wSa (some g) from by
        rw [← hwS]
        exact grownBy_new (grownBy_own (grownBy_trans HGp.out (grownBy_none (g := g) HGAa.out)) HGR6.out (fun k e => by have := (HROWSx.out.owned k e).1; omega)) (by omega) _)
      rw [hvN, hwS]
      have HVNa := Lib.hid hvN
      clear hvN hwS hrowsN HJ7 HJ87 HR7 HOWN6 HGR6 HPL6 zz7 yy7 zz2 hb5 hb6 hg5 hg6 HOA HKA HTA HNW HOWN HRKp HROWSx HJA HJ8A HRA HNO HSA HA HC2 HKa HJp HJ8p HRp HGp
      refine (HCALL.out wSa HRSa.out).mono ?_
      rintro e w10 ⟨vi, rfl, hrows5, hr6, hg6⟩
      rw [HT.out]
      rw [HT.out] at hrows5
      rw [HQ9.out.2.2.2.1] at hr6
      obtain ⟨ao, vn, vc, rfl⟩ := hrows5.form
      unfold agg
      have HRt := Lib.hid hr6
      have HJt := Lib.hid (HJSa.out.keep (hg6.block b HJSa.out.lt (fun e => by injection e with e; omega)))
      have HJ8t := Lib.hid (HJ8Sa.out.keep (hg6.block (b + 1) HJ8Sa.out.lt (fun e => by injection e with e; omega)))
      have HGt := Lib.hid (grownBy_trans HGSa.out hg6)
      have hrkt := rows_grown HRNa.out hg6 (by omega)
      obtain ⟨K1, hK1⟩ : ∃ K, K0 ++ [JT.mk 115 nm [] ⟨#[]⟩] = K := ⟨_, rfl⟩
      rw [hK1] at hrkt
      have HRKt := Lib.hid hrkt
      have HK1 := Lib.hid hK1
      clear hrkt
      have HROWSV := Lib.hid (fun k e => (HRNa.out.owned k e).2)
      have HROWST := Lib.hid hrows5
      have hsz5 := hg6.size
      have hbS := HJ8Sa.out.lt
      have hKl : K1.length ≤ 7 := by rw [← hK1, List.length_append]; simpa using hK0l
      clear hK1
      clear hrows5 hr6 hg6 HCALL HRSa HJSa HJ8Sa HGSa HRNa
      obtain ⟨kob, knb, kcb, hkb⟩ := HRKt.out.form
      have HKb := Lib.hid hkb
      have zz2 := HJ8t.out.c2
      have hb5 : b + 1 < w10.heap.size := HJ8t.out.lt
      have hb6 : ¬ b + 1 = w10.heap.size := by omega
      have hg5 : g < w10.heap.size := HRt.out.lt
      have hg6 : ¬ g = w10.heap.size := by omega
      rw [hkb] at zz2
      have HROWSx := Lib.hid (show Rows (d' + 1 + 1) w10 (InW (b + 2) w10) (.slice kob knb kcb) K1 from by rw [← hkb]; exact HRKt.out)
      obtain ⟨xsb, hown0, hkids⟩ := HROWSx.out
      obtain ⟨Cb, hC⟩ : ∃ C, Obj.cells #[.int .u8 T.k, .string T.t, (.slice ao vn vc), .string T.u] 27 = C := ⟨_, rfl⟩
      obtain ⟨wAb, hA⟩ : ∃ W, (w10.alloc Cb).alloc Cb = W := ⟨_, rfl⟩
      have hgA : w10.grownBy wAb none := by rw [← hA]; exact grownBy_trans (World.grownBy_alloc _ _ _) (World.grownBy_alloc _ _ _)
      have hsA : wAb.heap.size = w10.heap.size + 2 := by rw [← hA]; simp
      have hfrm : ∀ k, k < w10.heap.size → wAb.heap[k]? = w10.heap[k]? := fun k hk => hgA.block k hk (by simp)
      have hownA : wAb.ownsRow 0 27 4 (.slice kob knb kcb) K1.length xsb := ownsRow_frame hown0.1 fun k e => hfrm k (hown0.2 k e).2
      have HKA := Lib.hid (show ∀ i t, K1[i]? = some t → ∃ vi, (xsb.drop (i * 4)).take 4 = nodeL t vi ∧ Rows (d' + 1) wAb (fun k => InW (b + 2) wAb k ∧ (Value.slice kob knb kcb).ownBlock ≠ some k) vi t.ks from fun i t ht => by
        obtain ⟨vi, h1, h2⟩ := hkids i t ht
        exact ⟨vi, h1, (h2.frame fun k hk => hfrm k hk.1.2).mono fun k hk => ⟨⟨hk.1.1, by have := hk.1.2; omega⟩, hk.2⟩⟩)
      have HOA := Lib.hid (show Owns wAb (InW (b + 2) wAb) (.slice kob knb kcb) K1.length xsb from ⟨hownA, fun k e => ⟨(hown0.2 k e).1, by have := (hown0.2 k e).2; omega⟩⟩)
      have HTA := Lib.hid (show Rows (d' + 1) wAb (fun k => InW (b + 2) wAb k ∧ (Value.slice kob knb kcb).ownBlock ≠ some k) (.slice ao vn vc) T.ks from (HROWST.out.frame fun k hk => hfrm k hk.2).mono fun k hk => ⟨⟨by have := hk.1; omega, by have := hk.2; omega⟩, fun e => by
        rw [← HKb.out] at e
        have h1 := HROWSV.out k e
        have := hk.1
        omega⟩)
      have hnews : ∀ j u, (nodeL T (.slice ao vn vc))[j]? = some u → wAb.cell? ((⟨w10.heap.size + 1, 0, none⟩ : Addr).add j) = some u := by
        rw [← hA, ← hC, show w10.heap.size + 1 = (w10.alloc (Obj.cells #[.int .u8 T.k, .string T.t, (.slice ao vn vc), .string T.u] 27)).heap.size from by simp]
        exact node_lies _ T _
      have HNW := Lib.hid hnews
      have HOWN := Lib.hid hownA
      have HA := Lib.hid hA
      have HGAb := Lib.hid hgA
      have HSA := Lib.hid hsA
      have HC2 := Lib.hid hC
      have HJA := Lib.hid (HJt.out.keep (hfrm b (by omega)))
      have HJ8A := Lib.hid (HJ8t.out.keep (hfrm (b + 1) (by omega)))
      have HRA := Lib.hid (HRt.out.keep (hfrm g (by omega)))
      have HNO := Lib.hid (show ∀ k, k ≤ b + 1 → some k ≠ (Value.slice kob knb kcb).ownBlock from fun k hk e => by have := (HROWSx.out.owned k e.symm).1; omega)
      have hsA2 : b + 1 < wAb.heap.size := by omega
      clear hA hgA hsA hfrm hown0 hownA hnews hkids hC hkb
      go_wp2_with (at_builtin; rw [HC2.out, HA.out]; refine wpList_append_lies _ rfl _ _ _ rfl 0 27 i0 (.agg #[.int .u8 0, .string ⟨#[]⟩, .slice none 0 0, .string ⟨#[]⟩]) 4 64 Tryz.underlying25 hi hz0 hz1 hz2 rfl (by omega) (.slice kob knb kcb) K1.length xsb rfl HOWN.out ⟨w10.heap.size + 1, 0, none⟩ 1 1 (nodeL T (.slice ao vn vc)) rfl rfl HNW.out (node_one T rfl) (by omega) (by unfold maxLen; omega) (by omega) (Nat.zero_le _) (w10.heap.size + 2) HSA.out ?_; intro gAb capb w6b hown hgrow hpl hlt6; have HJ7 := Lib.hid (HJA.out.keep (hgrow.block b (by omega) (HNO.out b (by omega)))); have HJ87 := Lib.hid (HJ8A.out.keep (hgrow.block (b + 1) (by omega) (HNO.out (b + 1) (by omega)))); have HR7 := Lib.hid (HRA.out.keep (hgrow.block g (by omega) (HNO.out g (by omega)))); have zz7 := HJ87.out.c2; have yy7 := HJ87.out.fz 2; have HOWN6 := Lib.hid hown; have HGR6 := Lib.hid hgrow; have HPL6 := Lib.hid hpl; clear hown hgrow hpl)
      obtain ⟨vNb, hvN⟩ : ∃ v, Value.slice (some ⟨gAb, 0, none⟩) (K1.length + 1) capb = v := ⟨_, rfl⟩
      obtain ⟨wSb, hwS⟩ : ∃ W, w6b.setCell ⟨b + 1, 2, none⟩ vNb = W := ⟨_, rfl⟩
      have hrowsN : Rows (d' + 1 + 1) w6b (InW (b + 2) w6b) vNb (K1 ++ [T]) := by
        have h1 := rows_snoc (lo := b + 2) (w := wAb) (w' := w6b) (g := gAb) (cap := capb) (t := T) (vi := (.slice ao vn vc)) (by have := HSA.out; omega) HOA.out HKA.out HTA.out HOWN6.out HGR6.out (by rw [HSA.out]; exact HPL6.out) hlt6
        rw [hvN] at h1
        exact h1
      have HRNb := Lib.hid (show Rows (d' + 1 + 1) wSb (InW (b + 2) wSb) vNb (K1 ++ [T]) from by rw [← hwS]; exact rows_set hrowsN (by omega))
      have HJSb := Lib.hid (show JB wSb b 0 ⟨#[]⟩ (.slice none 0 0) ⟨#[]⟩ from by rw [← hwS]; exact HJ7.out.keep (Below.heap_setCell _ _ _ _ (by show b ≠ b + 1; omega)))
      have HJ8Sb := Lib.hid (show JB wSb (b + 1) 111 ⟨#[]⟩ vNb ⟨#[]⟩ from by rw [← hwS]; exact HJ87.out.put2 vNb)
      have HRSb := Lib.hid (show Rd wSb g s q2 dp from by rw [← hwS]; exact HR7.out.keep (Below.heap_setCell _ _ _ _ (by show g ≠ b + 1; omega)))
      have HGSb := Lib.hid (show w.grownBy wSb (some g) from by
        rw [← hwS]
        exact grownBy_new (grownBy_own (grownBy_trans HGt.out (grownBy_none (g := g) HGAb.out)) HGR6.out (fun k e => by have := (HROWSx.out.owned k e).1; omega)) (by omega) _)
      rw [hvN, hwS]
      have HVNb := Lib.hid hvN
      clear hvN hwS hrowsN HJ7 HJ87 HR7 HOWN6 HGR6 HPL6 zz7 yy7 zz2 hb5 hb6 hg5 hg6 HOA HKA HTA HNW HOWN HRKt HROWSx HJA HJ8A HRA HNO HSA HA HC2 HKb HJt HJ8t HRt HGt
      refine (space_at g q2 dp s _ HRSb.out (by omega) (by omega)).mono ?_
      rintro e w11 ⟨rfl, q4, hq1, hq2, hq3, hq4, hr7, hg7⟩
      have hcN2 := HC9.out
      have hqq : q4 = q2 + s2.length := space_end HS2.out HL6.out (.inr (by rw [hq3e, hcN2]; unfold wsb; omega)) hq1 hq2 hq3 hq4
      rw [hq3e] at hqq
      subst hqq
      have HR7 := Lib.hid hr7
      have HJ7 := Lib.hid (HJSb.out.keep (hg7.block b HJSb.out.lt (fun e => by injection e with e; omega)))
      have HJ87 := Lib.hid (HJ8Sb.out.keep (hg7.block (b + 1) HJ8Sb.out.lt (fun e => by injection e with e; omega)))
      have HG7 := Lib.hid (grownBy_trans HGSb.out hg7)
      have HRN7 := Lib.hid (rows_grown HRNb.out hg7 (by omega))
      clear hr7 hg7 hq1 hq2 hq3 hq4 hcN2 HRSb HJSb HJ8Sb HGSb HRNb
      go_wp2_with fail
      refine (peek_at g q4 dp s _ HR7.out (by omega)).mono ?_
      rintro e w12 ⟨rfl, hg8⟩
      rw [HC9.out]
      have HR8 := Lib.hid (HR7.out.keep (hg8.block g HR7.out.lt (by simp)))
      have HJ8 := Lib.hid (HJ7.out.keep (hg8.block b HJ7.out.lt (by simp)))
      have HJ88 := Lib.hid (HJ87.out.keep (hg8.block (b + 1) HJ87.out.lt (by simp)))
      have HG8 := Lib.hid (grownBy_trans HG7.out (grownBy_none (g := g) hg8))
      have hrn8 := rows_grown HRN7.out (grownBy_none (g := g) hg8) (by omega)
      have hke : K1 ++ [T] = (done ++ [x1]).flatMap (prs (d' + 1)) := by
        rw [← HK1.out, List.flatMap_append, HK0.out]
        simp [prs, HMEAN.out, HT.out]
      rw [hke] at hrn8
      have HRN8 := Lib.hid hrn8
      clear hg8 HR7 HJ7 HJ87 HG7 HRN7 hrn8 hke
      have k1 := HR8.out.c1
      have kf := HR8.out.fz 1
      have z0 := HJ8.out.c0
      have y0 := HJ8.out.fz 0
      have zz0 := HJ88.out.c0
      have z1 := HJ8.out.c1
      have y1 := HJ8.out.fz 1
      have zz1 := HJ88.out.c1
      have z2 := HJ8.out.c2
      have y2 := HJ8.out.fz 2
      have zz2 := HJ88.out.c2
      have z3 := HJ8.out.c3
      have y3 := HJ8.out.fz 3
      have zz3 := HJ88.out.c3
      rcases HNEXT.out with ⟨rfl, rfl, rfl⟩ | ⟨rfl, y, r', s3, v3, rfl, hs3, hv3, rfl⟩
      · rw [← HVNb.out] at zz2
        go_wp2_with fail
        (try simp only [Exit.inBlock, Exit.then])
        have hj9 : JB (w12.setCell ⟨g, 1, none⟩ (.int .i64 ((q4 : Int) + 1))) b 0 ⟨#[]⟩ (.slice none 0 0) ⟨#[]⟩ := HJ8.out.keep (Below.heap_setCell _ _ _ _ (by show b ≠ g; omega))
        refine bodyPost_ret (results_jb rfl rfl (hj9.set 111 _ _ _)) ?_ ?_
        · rfl
        · have hd9 := HDONE.out
          have hrn := HRN8.out
          rw [← HVNb.out, ← hd9] at hrn
          refine ⟨_, rfl, ?_, ?_, grownBy_set4 (grownBy_trans HG8.out (grownBy_at w12 g (q4 + 1))) (by omega) _ _ _ _⟩
          · exact (rows_set (rows_set (rows_set (rows_set (rows_set hrn (show g < b + 2 by omega)) (show b < b + 2 by omega)) (show b < b + 2 by omega)) (show b < b + 2 by omega)) (show b < b + 2 by omega)).mono fun k hk => ⟨by have := hk.1; omega, hk.2⟩
          · have h0 : ([] : List Int).length = 0 := rfl
            rw [show p + 1 + sp.length + u.length + 1 = q4 + 1 from by omega]
            exact (HR8.out.at_ (q4 + 1)).keep (set4_other _ _ _ _ _ _ _ (by omega))
      · have hl9 := HL6.out.drop.tail
        rw [hq3e] at hl9
        have HL9 := Lib.hid hl9
        clear hl9
        go_wp2_with fail
        go_roundw
        case rel => exact Lib.hid ⟨done ++ [x1], y, r', s3, v3, q4 + 1, vNb, by rw [HDONE.out]; simp, hs3, hv3, HL9.out, by
          have h9 := hlen
          simp only [List.length_append, List.length_cons, List.length_nil] at h9
          omega, HR8.out.at_ (q4 + 1), HJ8.out.keep (Below.heap_setCell _ _ _ _ (by show b ≠ g; omega)), HJ88.out.keep (Below.heap_setCell _ _ _ _ (by show b + 1 ≠ g; omega)), rows_set HRN8.out (by omega), grownBy_trans HG8.out (grownBy_at w12 g (q4 + 1))⟩
        case measure => exact text_meas HRW.out _ (q4 + 1) (HR8.out.at_ (q4 + 1)) (by omega) (by omega)

end Go.Proofs.YthoekplablhgfaaGreatDoor
