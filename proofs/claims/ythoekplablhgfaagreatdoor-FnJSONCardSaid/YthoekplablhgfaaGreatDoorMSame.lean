/-
  The contracts of Same, Written and Tight, and the plain law of what is written.
-/
import Derived.Test.YthoekplablhgfaaGreatDoorJRVal
import Derived.StillTailTactics
import Derived.Test.YthoekplablhgfaaGreatDoorMRead
import Derived.Deep.DeepCutAuto
import Derived.Test.YthoekplablhgfaaGreatDoorMLaw

/- JSame -/
namespace Go.Proofs.YthoekplablhgfaaGreatDoor
open Go.RowKit
set_option linter.unusedVariables false

/-- Two trees are the same but for how numbers are written. -/
def SameT : Nat → JT → JT → Prop
  | 0, _, _ => False
  | f + 1, a, b => a.k = b.k ∧ a.t = b.t ∧ a.ks.length = b.ks.length ∧ a.ks.length ≤ 1000000 ∧ ∀ (i : Nat) (x y : JT), a.ks[i]? = some x → b.ks[i]? = some y → SameT f x y
/-- The values of a row, each by itself. -/
theorem rows_item {f : Nat} {w : World} {B : Nat → Prop} {v : Value} {ks : List JT} (h : Rows (f + 1) w B v ks) {i : Nat} (hi : i < ks.length) : ∃ gA cap t ao n c, v = .slice (some ⟨gA, 0, none⟩) ks.length cap ∧ B gA ∧ ks.length ≤ cap ∧ ks[i]? = some t ∧ Rows f w B (.slice ao n c) t.ks ∧
    w.cell? ⟨gA, i * 4, none⟩ = some (.int .u8 t.k) ∧ w.cell? ⟨gA, i * 4 + 1, none⟩ = some (.string t.t) ∧ w.cell? ⟨gA, i * 4 + 2, none⟩ = some (.slice ao n c) ∧ w.cell? ⟨gA, i * 4 + 3, none⟩ = some (.string t.u) := by
  obtain ⟨xs, ⟨⟨h1, h2⟩, h3⟩, h4⟩ := h
  obtain ⟨t, ht⟩ : ∃ t, ks[i]? = some t := ⟨_, List.getElem?_eq_getElem hi⟩
  obtain ⟨vi, h5, h6⟩ := h4 i t ht
  rcases h2 with ⟨_, h2⟩ | ⟨gA, cap, cur, rfl, _, h8, h9, _, h10, h11⟩
  · omega
  · obtain ⟨ao, n, c, rfl⟩ := h6.form
    have hcell : ∀ j u, (nodeL t (.slice ao n c))[j]? = some u → w.cell? ⟨gA, i * 4 + j, none⟩ = some u := by
      intro j u hu
      have hj : j < 4 := by
        rcases Nat.lt_or_ge j 4 with h | h
        · exact h
        · rw [List.getElem?_eq_none (by simpa [nodeL] using h)] at hu; cases hu
      rw [cell_of_row w gA _ _ _ _ h8, ← hu, ← h5, List.getElem?_take, if_pos hj, List.getElem?_drop, ← h11, List.getElem?_take, if_pos (by omega), Array.getElem?_toList]
    exact ⟨gA, cap, t, ao, n, c, rfl, h3 gA rfl, h9, ht, h6.mono fun b hb => hb.1, hcell 0 _ rfl, hcell 1 _ rfl, hcell 2 _ rfl, hcell 3 _ rfl⟩
theorem rows_nlen {f : Nat} {w : World} {B : Nat → Prop} {ks : List JT} {ao : Option Addr} {n c : Nat} (h : Rows (f + 1) w B (.slice ao n c) ks) : n = ks.length := by
  obtain ⟨xs, ⟨⟨h1, h2⟩, h3⟩, h4⟩ := h
  rcases h2 with ⟨h2, h5⟩ | ⟨gA, cap, cur, h2, _⟩
  · injection h2 with _ h2 _; omega
  · injection h2 with _ h2 _; 

theorem cell_eq {w w' : World} {b o : Nat} (h : w'.heap[b]? = w.heap[b]?) : w'.cell? ⟨b, o, none⟩ = w.cell? ⟨b, o, none⟩ := by simp [World.cell?, h]
def SamePost (w : World) (e : Ending) (w' : World) : Prop := e = .returned (.bool true) ∧ Below w.heap.size w w'

set_option maxRecDepth 100000 in
set_option maxHeartbeats 3200000 in
theorem Same_at : ∀ (f : Nat) (a b : JT) (va vb : Value) (A B : Nat → Prop) (w : World), Rows f w A va a.ks → Rows f w B vb b.ks → (∀ k, A k → k < w.heap.size) → (∀ k, B k → k < w.heap.size) → SameT f a b →
    Calls Tryz.prog 8 #[agg a va, agg b vb] w (SamePost w) := by
  intro f
  induction f with
  | zero => intro a b va vb A B w ha; exact ha.elim
  | succ f ih =>
    intro a b va vb A B w ha hb hA hB hsame
    obtain ⟨e1, e2, e3, hlen, e4⟩ := hsame
    obtain ⟨ao, an, ac, rfl⟩ := ha.form
    obtain ⟨bo, bn, bc, rfl⟩ := hb.form
    have hna := rows_nlen ha
    have hnb := rows_nlen hb
    obtain ⟨n, hn⟩ : ∃ n, a.ks.length = n := ⟨_, rfl⟩
    rw [← e3, hn] at hnb
    rw [hn] at hna hlen
    subst hna
    subst hnb
    unfold agg
    rw [← e1, ← e2]
    obtain ⟨k, hk⟩ : ∃ k, a.k = k := ⟨_, rfl⟩
    obtain ⟨t, ht⟩ : ∃ t, a.t = t := ⟨_, rfl⟩
    obtain ⟨ua, hua⟩ : ∃ u, a.u = u := ⟨_, rfl⟩
    obtain ⟨ub, hub⟩ : ∃ u, b.u = u := ⟨_, rfl⟩
    rw [hk, ht, hua, hub]
    have HA := Lib.hid ha
    have HB := Lib.hid hb
    have HAs := Lib.hid hA
    have HBs := Lib.hid hB
    have HE := Lib.hid e4
    have HIH := Lib.hid ih
    have HN := Lib.hid hn
    have HN2 := Lib.hid (e3.symm.trans hn)
    clear ha hb hA hB e4 ih hn e1 e2 e3 hk ht hua hub
    obtain ⟨W1, hW1⟩ : ∃ W, w.alloc (.cells #[.int .u8 k, .string t, .slice ao bn ac, .string ua] 27) = W := ⟨_, rfl⟩
    have hs1 : W1.heap.size = w.heap.size + 1 := by rw [← hW1]; simp
    have hj1 : JB W1 w.heap.size k t (.slice ao bn ac) ua := by rw [← hW1]; exact heap_alloc_new w _
    have hb1 : Below w.heap.size w W1 := by rw [← hW1]; exact (Below.refl _ _).alloc (Nat.le_refl _) _
    obtain ⟨W2, hW2⟩ : ∃ W, W1.alloc (.cells #[.int .u8 k, .string t, .slice bo bn bc, .string ub] 27) = W := ⟨_, rfl⟩
    have hs2 : W2.heap.size = w.heap.size + 2 := by rw [← hW2]; simp [hs1]
    have hj2 : JB W2 w.heap.size k t (.slice ao bn ac) ua := by rw [← hW2]; exact hj1.keep (heap_alloc_old _ _ (by omega))
    have hj3 : JB W2 (w.heap.size + 1) k t (.slice bo bn bc) ub := by rw [← hW2, ← hs1]; exact heap_alloc_new W1 _
    have hb2 : Below w.heap.size w W2 := by rw [← hW2]; exact hb1.alloc (by omega) _
    have HJ1 := Lib.hid hj2
    have HJ2 := Lib.hid hj3
    have HB0 := Lib.hid hb2
    have zz0 := hj2.c0
    have zz1 := hj2.c1
    have zz2 := hj2.c2
    have xx0 := hj3.c0
    have xx1 := hj3.c1
    have xx2 := hj3.c2
    clear hj1 hb1 hj2 hj3 hb2
    go_enter Tryz.func8, Tryz.ntmps8
    go_wp2_with fail
    clear zz0 zz1 zz2 xx0 xx1 xx2
    go_loopw [5, 30] (fun _ v30 wr => ∃ i : Nat, i ≤ bn ∧ v30 = .int .i64 (i : Nat) ∧ RowKit.Hid (Below W2.heap.size W2 wr)) (fun _ v30 _ => bn - (intOf v30).toNat)
    case atStart => exact ⟨0, by omega, rfl, Lib.hid (Below.refl _ _)⟩
    case round =>
      obtain ⟨i, hi, rfl, HBR⟩ := hrel
      have z2 := (HJ1.out.keep (HBR.out.block _ (by omega))).c2
      have x2 := (HJ2.out.keep (HBR.out.block _ (by omega))).c2
      by_cases hlt : i < bn
      · have hkeep : ∀ k, k < w.heap.size → wr.heap[k]? = w.heap[k]? := fun k hk => (HBR.out.block k (by omega)).trans (HB0.out.block k hk)
        obtain ⟨gA, ca, ta, ao2, na2, ca2, ea, hga, hca, hta, hra, a0, a1, a2, a3⟩ := rows_item HA.out (show i < a.ks.length by rw [HN.out]; exact hlt)
        obtain ⟨gB, cb, tb, bo2, nb2, cb2, eb, hgb, hcb, htb, hrb, b0, b1, b2, b3⟩ := rows_item HB.out (show i < b.ks.length by rw [HN2.out]; exact hlt)
        have hst := HE.out i ta tb hta htb
        rw [HN.out] at hca
        rw [HN2.out] at hcb
        rw [HN.out] at ea
        rw [HN2.out] at eb
        obtain ⟨rfl, rfl⟩ : ao = some ⟨gA, 0, none⟩ ∧ ac = ca := by injection ea with h1 h2 h3; exact ⟨h1, h3⟩
        obtain ⟨rfl, rfl⟩ : bo = some ⟨gB, 0, none⟩ ∧ bc = cb := by injection eb with h1 h2 h3; exact ⟨h1, h3⟩
        clear ea eb
        have ka := hkeep gA (HAs.out gA hga)
        have kb := hkeep gB (HBs.out gB hgb)
        rw [← cell_eq ka] at a0 a1 a2 a3
        rw [← cell_eq kb] at b0 b1 b2 b3
        have HCALL := Lib.hid (fun (wq : World) (hq : ∀ k, k < w.heap.size → wq.heap[k]? = w.heap[k]?) (hz : w.heap.size ≤ wq.heap.size) => HIH.out ta tb _ _ A B wq (hra.frame fun k hk => hq k (HAs.out k hk)) (hrb.frame fun k hk => hq k (HBs.out k hk)) (fun k hk => by have := HAs.out k hk; omega) (fun k hk => by have := HBs.out k hk; omega) hst)
        have HKEEP := Lib.hid hkeep
        clear hra hrb hst ka kb hkeep
        have hltI : ((i : Nat) : Int) < ((bn : Nat) : Int) := by omega
        go_wp2_with fail
        go_still_tail 10, (by kernel_rfl)
        change wpList _ _ _ _ _ wr.drew
        obtain ⟨w2, hw2⟩ : ∃ W, wr.drew = W := ⟨_, rfl⟩
        have hk2 : ∀ k, k < w.heap.size → w2.heap[k]? = w.heap[k]? := fun k hk => by rw [← hw2]; exact HKEEP.out k hk
        have hz2 : w.heap.size ≤ w2.heap.size := by
          rw [← hw2]
          exact Nat.le_trans (show w.heap.size ≤ W2.heap.size by omega) HBR.out.size
        have hb2 : Below W2.heap.size W2 w2 := by rw [← hw2]; exact HBR.out.drew
        rw [hw2]
        have HB2 := Lib.hid hb2
        have hc := HCALL.out w2 hk2 hz2
        have HC := Lib.hid hc
        clear hb2 hk2 hc hw2 HCALL a0 a1 a2 a3 b0 b1 b2 b3
        go_wp2_with fail
        refine HC.out.mono ?_
        rintro e w3 ⟨rfl, hb3⟩
        have HB3 := Lib.hid (show Below W2.heap.size W2 w3 from ⟨hb3.os.trans HB2.out.os, hb3.tape.trans HB2.out.tape, hb3.output.trans HB2.out.output, Nat.le_trans HB2.out.size hb3.size, fun k hk => (hb3.block k (by have := HB2.out.size; omega)).trans (HB2.out.block k hk)⟩)
        clear hb3 HC HB2
        go_wp2_with fail
        go_roundw
        case rel => exact ⟨i + 1, by omega, by go_num, HB3⟩
        case measure => simp [intOf]; omega
      · obtain rfl : i = bn := by omega
        go_wp2_with fail
        go_ret
        have hb := HBR.out
        exact ⟨rfl, hb.os.trans HB0.out.os, hb.tape.trans HB0.out.tape, hb.output.trans HB0.out.output, Nat.le_trans HB0.out.size hb.size, fun k hk => (hb.block k (by omega)).trans (HB0.out.block k hk)⟩

/-- Two trees of which the numbers are written alike. -/
def WrT : Nat → JT → JT → Prop
  | 0, _, _ => False
  | f + 1, a, b => a.u = b.u ∧ a.ks.length = b.ks.length ∧ a.ks.length ≤ 1000000 ∧ ∀ (i : Nat) (x y : JT), a.ks[i]? = some x → b.ks[i]? = some y → WrT f x y

set_option maxRecDepth 100000 in
set_option maxHeartbeats 3200000 in
theorem Written_at : ∀ (f : Nat) (a b : JT) (va vb : Value) (A B : Nat → Prop) (w : World), Rows f w A va a.ks → Rows f w B vb b.ks → (∀ k, A k → k < w.heap.size) → (∀ k, B k → k < w.heap.size) → WrT f a b →
    Calls Tryz.prog 9 #[agg a va, agg b vb] w (SamePost w) := by
  intro f
  induction f with
  | zero => intro a b va vb A B w ha; exact ha.elim
  | succ f ih =>
    intro a b va vb A B w ha hb hA hB hsame
    obtain ⟨e1, e3, hlen, e4⟩ := hsame
    obtain ⟨ao, an, ac, rfl⟩ := ha.form
    obtain ⟨bo, bn, bc, rfl⟩ := hb.form
    have hna := rows_nlen ha
    have hnb := rows_nlen hb
    obtain ⟨n, hn⟩ : ∃ n, a.ks.length = n := ⟨_, rfl⟩
    rw [← e3, hn] at hnb
    rw [hn] at hna hlen
    subst hna
    subst hnb
    unfold agg
    rw [← e1]
    obtain ⟨k, hk⟩ : ∃ k, a.k = k := ⟨_, rfl⟩
    obtain ⟨t, ht⟩ : ∃ t, a.t = t := ⟨_, rfl⟩
    obtain ⟨k', hk'⟩ : ∃ k, b.k = k := ⟨_, rfl⟩
    obtain ⟨t', ht'⟩ : ∃ t, b.t = t := ⟨_, rfl⟩
    obtain ⟨ua, hua⟩ : ∃ u, a.u = u := ⟨_, rfl⟩
    rw [hk, ht, hua, hk', ht']
    have HA := Lib.hid ha
    have HB := Lib.hid hb
    have HAs := Lib.hid hA
    have HBs := Lib.hid hB
    have HE := Lib.hid e4
    have HIH := Lib.hid ih
    have HN := Lib.hid hn
    have HN2 := Lib.hid (e3.symm.trans hn)
    clear ha hb hA hB e4 ih hn e1 e3 hk ht hua hk' ht'
    obtain ⟨W1, hW1⟩ : ∃ W, w.alloc (.cells #[.int .u8 k, .string t, .slice ao bn ac, .string ua] 27) = W := ⟨_, rfl⟩
    have hs1 : W1.heap.size = w.heap.size + 1 := by rw [← hW1]; simp
    have hj1 : JB W1 w.heap.size k t (.slice ao bn ac) ua := by rw [← hW1]; exact heap_alloc_new w _
    have hb1 : Below w.heap.size w W1 := by rw [← hW1]; exact (Below.refl _ _).alloc (Nat.le_refl _) _
    obtain ⟨W2, hW2⟩ : ∃ W, W1.alloc (.cells #[.int .u8 k', .string t', .slice bo bn bc, .string ua] 27) = W := ⟨_, rfl⟩
    have hs2 : W2.heap.size = w.heap.size + 2 := by rw [← hW2]; simp [hs1]
    have hj2 : JB W2 w.heap.size k t (.slice ao bn ac) ua := by rw [← hW2]; exact hj1.keep (heap_alloc_old _ _ (by omega))
    have hj3 : JB W2 (w.heap.size + 1) k' t' (.slice bo bn bc) ua := by rw [← hW2, ← hs1]; exact heap_alloc_new W1 _
    have hb2 : Below w.heap.size w W2 := by rw [← hW2]; exact hb1.alloc (by omega) _
    have HJ1 := Lib.hid hj2
    have HJ2 := Lib.hid hj3
    have HB0 := Lib.hid hb2
    have zz0 := hj2.c0
    have zz1 := hj2.c1
    have zz2 := hj2.c2
    have xx0 := hj3.c0
    have xx1 := hj3.c1
    have xx2 := hj3.c2
    clear hj1 hb1 hj2 hj3 hb2
    go_enter Tryz.func9, Tryz.ntmps9
    go_wp2_with fail
    clear zz0 zz1 zz2 xx0 xx1 xx2
    go_loopw [5, 9] (fun _ v30 wr => ∃ i : Nat, i ≤ bn ∧ v30 = .int .i64 (i : Nat) ∧ RowKit.Hid (Below W2.heap.size W2 wr)) (fun _ v30 _ => bn - (intOf v30).toNat)
    case atStart => exact ⟨0, by omega, rfl, Lib.hid (Below.refl _ _)⟩
    case round =>
      obtain ⟨i, hi, rfl, HBR⟩ := hrel
      have z2 := (HJ1.out.keep (HBR.out.block _ (by omega))).c2
      have x2 := (HJ2.out.keep (HBR.out.block _ (by omega))).c2
      by_cases hlt : i < bn
      · have hkeep : ∀ k, k < w.heap.size → wr.heap[k]? = w.heap[k]? := fun k hk => (HBR.out.block k (by omega)).trans (HB0.out.block k hk)
        obtain ⟨gA, ca, ta, ao2, na2, ca2, ea, hga, hca, hta, hra, a0, a1, a2, a3⟩ := rows_item HA.out (show i < a.ks.length by rw [HN.out]; exact hlt)
        obtain ⟨gB, cb, tb, bo2, nb2, cb2, eb, hgb, hcb, htb, hrb, b0, b1, b2, b3⟩ := rows_item HB.out (show i < b.ks.length by rw [HN2.out]; exact hlt)
        have hst := HE.out i ta tb hta htb
        rw [HN.out] at hca
        rw [HN2.out] at hcb
        rw [HN.out] at ea
        rw [HN2.out] at eb
        obtain ⟨rfl, rfl⟩ : ao = some ⟨gA, 0, none⟩ ∧ ac = ca := by injection ea with h1 h2 h3; exact ⟨h1, h3⟩
        obtain ⟨rfl, rfl⟩ : bo = some ⟨gB, 0, none⟩ ∧ bc = cb := by injection eb with h1 h2 h3; exact ⟨h1, h3⟩
        clear ea eb
        have ka := hkeep gA (HAs.out gA hga)
        have kb := hkeep gB (HBs.out gB hgb)
        rw [← cell_eq ka] at a0 a1 a2 a3
        rw [← cell_eq kb] at b0 b1 b2 b3
        have HCALL := Lib.hid (fun (wq : World) (hq : ∀ k, k < w.heap.size → wq.heap[k]? = w.heap[k]?) (hz : w.heap.size ≤ wq.heap.size) => HIH.out ta tb _ _ A B wq (hra.frame fun k hk => hq k (HAs.out k hk)) (hrb.frame fun k hk => hq k (HBs.out k hk)) (fun k hk => by have := HAs.out k hk; omega) (fun k hk => by have := HBs.out k hk; omega) hst)
        have HKEEP := Lib.hid hkeep
        clear hra hrb hst ka kb hkeep
        have hltI : ((i : Nat) : Int) < ((bn : Nat) : Int) := by omega
        go_wp2_with fail
        go_still_tail 10, (by kernel_rfl)
        change wpList _ _ _ _ _ wr.drew
        obtain ⟨w2, hw2⟩ : ∃ W, wr.drew = W := ⟨_, rfl⟩
        have hk2 : ∀ k, k < w.heap.size → w2.heap[k]? = w.heap[k]? := fun k hk => by rw [← hw2]; exact HKEEP.out k hk
        have hz2 : w.heap.size ≤ w2.heap.size := by
          rw [← hw2]
          exact Nat.le_trans (show w.heap.size ≤ W2.heap.size by omega) HBR.out.size
        have hb2 : Below W2.heap.size W2 w2 := by rw [← hw2]; exact HBR.out.drew
        rw [hw2]
        have HB2 := Lib.hid hb2
        have hc := HCALL.out w2 hk2 hz2
        have HC := Lib.hid hc
        clear hb2 hk2 hc hw2 HCALL a0 a1 a2 a3 b0 b1 b2 b3
        go_wp2_with fail
        refine HC.out.mono ?_
        rintro e w3 ⟨rfl, hb3⟩
        have HB3 := Lib.hid (show Below W2.heap.size W2 w3 from ⟨hb3.os.trans HB2.out.os, hb3.tape.trans HB2.out.tape, hb3.output.trans HB2.out.output, Nat.le_trans HB2.out.size hb3.size, fun k hk => (hb3.block k (by have := HB2.out.size; omega)).trans (HB2.out.block k hk)⟩)
        clear hb3 HC HB2
        go_wp2_with fail
        go_roundw
        case rel => exact ⟨i + 1, by omega, by go_num, HB3⟩
        case measure => simp [intOf]; omega
      · obtain rfl : i = bn := by omega
        have z3 := (HJ1.out.keep (HBR.out.block _ (by omega))).c3
        have x3 := (HJ2.out.keep (HBR.out.block _ (by omega))).c3
        go_wp2_with fail
        go_ret
        have hb := HBR.out
        exact ⟨rfl, hb.os.trans HB0.out.os, hb.tape.trans HB0.out.tape, hb.output.trans HB0.out.output, Nat.le_trans HB0.out.size hb.size, fun k hk => (hb.block k (by omega)).trans (HB0.out.block k hk)⟩

end Go.Proofs.YthoekplablhgfaaGreatDoor

/- JTight -/
namespace Go.Proofs.YthoekplablhgfaaGreatDoor
open Go.RowKit
set_option linter.unusedVariables false

/-- No white space outside of strings: 0 outside, 1 inside, 2 behind a backslash. -/
def tight : Nat → List Int → Bool
  | _, [] => true
  | s, c :: r => if s = 2 then tight 1 r else if s = 1 ∧ c = 92 then tight 2 r else if c = 34 then tight (1 - s) r else if s = 0 ∧ wsb c then false else tight s r

set_option maxRecDepth 100000 in
set_option maxHeartbeats 1600000 in
theorem Tight_at (s : ByteArray) (w : World) (hs : s.size ≤ 1000000) :
    Calls Tryz.prog 10 #[.string s] w fun e w' => e = .returned (.bool (tight 0 (bytesL s))) ∧ w = w' := by
  obtain ⟨R, hR⟩ : ∃ R, tight 0 (bytesL s) = R := ⟨_, rfl⟩
  rw [hR]
  have HR := Lib.hid hR
  clear hR
  go_enter Tryz.func10, Tryz.ntmps10
  go_wp2_with fail
  go_loopw [3, 4, 5] (fun v3 v4 _ wr => ∃ (b : Bool) (i : Nat), i ≤ s.size + 1 ∧ v3 = .bool b ∧ v4 = .int .i64 (i : Nat) ∧ RowKit.Hid (R = tight (if b = true then 1 else 0) ((bytesL s).drop i)) ∧ w = wr) (fun _ v4 _ _ => s.size + 1 - (intOf v4).toNat)
  case atStart => exact ⟨false, 0, by omega, rfl, rfl, Lib.hid (by rw [← HR.out]; rfl), rfl⟩
  case round =>
    obtain ⟨b, i, hi, rfl, rfl, HI, rfl⟩ := hrel
    by_cases hlt : i < s.size
    · have hd := bytesL_drop s i hlt
      obtain ⟨c, hc⟩ : ∃ c, ((s[i]'hlt).toNat : Int) = c := ⟨_, rfl⟩
      rw [hc] at hd
      have HD := Lib.hid hd
      clear hd
      have hi1 := HI.out
      rw [HD.out] at hi1
      cases b with
      | true =>
        by_cases h92 : c = 92
        · subst h92
          have h2 : R = tight 1 ((bytesL s).drop (i + 2)) := by
            rw [hi1, show (bytesL s).drop (i + 2) = ((bytesL s).drop (i + 1)).drop 1 from by rw [List.drop_drop]]
            cases (bytesL s).drop (i + 1) with
            | nil => simp [tight]
            | cons a r => simp [tight]
          have H2 := Lib.hid h2
          clear hi1 h2
          go_wp2_with fail
          go_roundw
          case rel => exact ⟨true, i + 2, by omega, rfl, by go_num, Lib.hid (by rw [H2.out]; rfl), trivial⟩
          case measure => simp [intOf]; omega
        · have f92 : (c == 92) = false := by simpa using h92
          by_cases h34 : c = 34
          · subst h34
            have H2 := Lib.hid (show R = tight 0 ((bytesL s).drop (i + 1)) from by rw [hi1]; simp [tight])
            clear hi1
            go_wp2_with fail
            go_roundw
            case rel => exact ⟨false, i + 1, by omega, rfl, by go_num, Lib.hid (by rw [H2.out]; rfl), trivial⟩
            case measure => simp [intOf]; omega
          · have f34 : (c == 34) = false := by simpa using h34
            have H2 := Lib.hid (show R = tight 1 ((bytesL s).drop (i + 1)) from by rw [hi1]; simp [tight, h92, h34])
            clear hi1
            go_wp2_with fail
            go_roundw
            case rel => exact ⟨true, i + 1, by omega, rfl, by go_num, Lib.hid (by rw [H2.out]; rfl), trivial⟩
            case measure => simp [intOf]; omega
      | false =>
        by_cases h34 : c = 34
        · subst h34
          have H2 := Lib.hid (show R = tight 1 ((bytesL s).drop (i + 1)) from by rw [hi1]; simp [tight])
          clear hi1
          go_wp2_with fail
          go_roundw
          case rel => exact ⟨true, i + 1, by omega, rfl, by go_num, Lib.hid (by rw [H2.out]; rfl), trivial⟩
          case measure => simp [intOf]; omega
        · have f34 : (c == 34) = false := by simpa using h34
          by_cases hw : wsb c
          · have h2 : R = false := by rw [hi1]; simp [tight, h34, hw]
            subst h2
            clear hi1
            rcases hw with rfl | rfl | rfl | rfl
            all_goals
              go_wp2_with fail
              go_ret
              exact ⟨rfl, rfl⟩
          · have H2 := Lib.hid (show R = tight 0 ((bytesL s).drop (i + 1)) from by rw [hi1]; simp [tight, h34, hw])
            have f1 : (c == 32) = false := by simp; exact fun e => hw (.inl e)
            have f2 : (c == 9) = false := by simp; exact fun e => hw (.inr (.inl e))
            have f3 : (c == 10) = false := by simp; exact fun e => hw (.inr (.inr (.inl e)))
            have f4 : (c == 13) = false := by simp; exact fun e => hw (.inr (.inr (.inr e)))
            clear hi1 hw
            go_wp2_with fail
            go_roundw
            case rel => exact ⟨false, i + 1, by omega, rfl, by go_num, Lib.hid (by rw [H2.out]; rfl), trivial⟩
            case measure => simp [intOf]; omega
    · have h2 : R = true := by
        rw [HI.out, List.drop_eq_nil_of_le (by rw [bytesL_length]; omega)]
        simp [tight]
      subst h2
      go_wp2_with fail
      go_ret
      exact ⟨rfl, rfl⟩

end Go.Proofs.YthoekplablhgfaaGreatDoor

/- JLaw -/
namespace Go.Proofs.YthoekplablhgfaaGreatDoor
open Go.RowKit
set_option linter.unusedVariables false

theorem items_join {α : Type} {T : α → List Int → Prop} {g : α → List Int} : ∀ (l : List α), (∀ x ∈ l, T x (g x)) → Items T l (joinC (l.map g))
  | [], _ => rfl
  | [x], h => ⟨g x, [], h x (by simp), fun c h => absurd h (by simp), by simp [joinC]⟩
  | x :: y :: l, h => ⟨g x, [], [], joinC ((y :: l).map g), h x (by simp), fun c h => absurd h (by simp), fun c h => absurd h (by simp), items_join (y :: l) (fun z hz => h z (by simp [hz])), by simp [joinC]⟩
theorem items_map {α β : Type} {T : β → List Int → Prop} {g : α → β} : ∀ (l : List α) (u : List Int), Items (fun x => T (g x)) l u → Items T (l.map g) u
  | [], _, e => e
  | [x], _, ⟨u, s, h1, h2, e⟩ => ⟨u, s, h1, h2, e⟩
  | x :: y :: l, _, ⟨u, s, s', v, h1, h2, h3, h4, e⟩ => ⟨u, s, s', v, h1, h2, h3, items_map (y :: l) v h4, e⟩
theorem items_mem {α : Type} {T : α → List Int → Prop} : ∀ {l : List α} {u : List Int}, Items T l u → ∀ x ∈ l, ∃ t, T x t
  | [], _, _, x, h => absurd h (by simp)
  | [x], _, ⟨u, s, h1, _, _⟩, y, hy => by
    have : y = x := by simpa using hy
    exact ⟨u, this ▸ h1⟩
  | x :: z :: l, _, ⟨u, s, s', v, h1, _, _, h4, _⟩, y, hy => by
    rcases List.mem_cons.1 hy with rfl | hy
    · exact ⟨u, h1⟩
    · exact items_mem (l := z :: l) h4 y hy
theorem items_len {α : Type} {T : α → List Int → Prop} {g : α → List Int} : ∀ {l : List α} {u : List Int}, Items T l u → (∀ x t, T x t → (g x).length ≤ t.length) → (joinC (l.map g)).length ≤ u.length
  | [], _, _, _ => by simp [joinC]
  | [x], _, ⟨u, s, h1, _, e⟩, h => by
    have := h _ _ h1
    rw [e]
    simp [joinC]
    omega
  | x :: z :: l, _, ⟨u, s, s', v, h1, _, _, h4, e⟩, h => by
    have h5 := items_len (l := z :: l) h4 h
    have := h _ _ h1
    rw [e]
    simp [joinC] at h5 ⊢
    omega
theorem joinC_all {P : Int → Prop} (hc : P 44) : ∀ (l : List (List Int)), (∀ t ∈ l, ∀ c ∈ t, P c) → ∀ c ∈ joinC l, P c
  | [], _, c, h => absurd h (by simp [joinC])
  | [a], h, c, hm => h a (by simp) c (by simpa [joinC] using hm)
  | a :: b :: r, h, c, hm => by
    simp only [joinC, List.mem_append, List.mem_cons] at hm
    rcases hm with hm | rfl | hm
    · exact h a (by simp) c hm
    · exact hc
    · exact joinC_all hc (b :: r) (fun t ht => h t (by simp at ht ⊢; exact .inr ht)) c hm

section
variable {N N' K : List Int → Prop} {f : List Int → List Int}
theorem txt_out (hN : ∀ u, N u → N' (f u)) : ∀ (d : Nat) (v : JVal) (t : List Int), JTxt (· ∈ jlitL) N K d v t → JTxt (· ∈ jlitL) N' K d (nv f d v) (otn f d v) := by
  intro d
  induction d with
  | zero => intro v t h; exact h.elim
  | succ d ih =>
    intro v t h
    unfold JTxt at h
    unfold JTxt otn
    cases v with
    | lit w => exact ⟨h.1, rfl⟩
    | num w => exact ⟨hN _ h.1, rfl⟩
    | str w => exact ⟨h.1, rfl⟩
    | arr l =>
      obtain ⟨hl, s, u, hs, hu, rfl⟩ := h
      refine ⟨by simpa using hl, [], joinC ((l.map (nv f d)).map (ot d)), fun c h => absurd h (by simp), ?_, by simp [nv, ot]⟩
      rw [List.map_map]
      refine items_map l _ (items_join l fun x hx => ?_)
      obtain ⟨tx, htx⟩ := items_mem hu x hx
      exact ih x tx htx
    | obj l =>
      obtain ⟨hl, s, u, hs, hu, rfl⟩ := h
      refine ⟨by simpa using hl, [], joinC ((l.map fun p => (p.1, nv f d p.2)).map fun p => p.1 ++ 58 :: ot d p.2), fun c h => absurd h (by simp), ?_, by simp [nv, ot]⟩
      rw [List.map_map]
      refine items_map l _ (items_join l fun x hx => ?_)
      obtain ⟨tx, a, b, c, h1, h2, h3, h4, h5⟩ := items_mem hu x hx
      exact ⟨[], [], _, h1, fun c h => absurd h (by simp), fun c h => absurd h (by simp), ih _ _ h4, by simp [otn]⟩
theorem len_out (hN : ∀ u, N u → (f u).length ≤ u.length) : ∀ (d : Nat) (v : JVal) (t : List Int), JTxt (· ∈ jlitL) N K d v t → (otn f d v).length ≤ t.length := by
  intro d
  induction d with
  | zero => intro v t h; exact h.elim
  | succ d ih =>
    intro v t h
    unfold JTxt at h
    unfold otn
    cases v with
    | lit w => obtain ⟨h, rfl⟩ := h; exact Nat.le_refl _
    | num w => obtain ⟨h, rfl⟩ := h; exact hN _ h
    | str w => obtain ⟨h, rfl⟩ := h; exact Nat.le_refl _
    | arr l =>
      obtain ⟨hl, s, u, hs, hu, rfl⟩ := h
      have h1 := items_len (g := otn f d) hu (fun x t h => ih x t h)
      have e : ot (d + 1) (nv f (d + 1) (.arr l)) = 91 :: (joinC (l.map (otn f d)) ++ [93]) := by
        simp only [nv, ot, List.map_map]
        rfl
      rw [e]
      simp
      omega
    | obj l =>
      obtain ⟨hl, s, u, hs, hu, rfl⟩ := h
      have h1 := items_len (g := fun p : List Int × JVal => p.1 ++ 58 :: otn f d p.2) hu (fun x t ⟨a, b, c, h1, h2, h3, h4, h5⟩ => by
        have := ih _ _ h4
        rw [h5]
        simp
        omega)
      have e : ot (d + 1) (nv f (d + 1) (.obj l)) = 123 :: (joinC (l.map fun p => p.1 ++ 58 :: otn f d p.2) ++ [125]) := by
        simp only [nv, ot, List.map_map]
        rfl
      rw [e]
      simp
      omega

/-- A text that leaves the automaton outside. -/
def TightV (t : List Int) : Prop := ∀ r, tight 0 (t ++ r) = tight 0 r
theorem tight_one {c : Int} (h1 : c ≠ 34) (h2 : ¬ wsb c) : TightV [c] := fun r => by simp [tight, h1, h2]
theorem TightV.app {a b : List Int} (ha : TightV a) (hb : TightV b) : TightV (a ++ b) := fun r => by rw [List.append_assoc, ha, hb]
theorem tight_plain : ∀ {t : List Int}, (∀ c ∈ t, c ≠ 34 ∧ ¬ wsb c) → TightV t
  | [], _ => fun r => rfl
  | c :: t, h => TightV.app (a := [c]) (tight_one (h c (by simp)).1 (h c (by simp)).2) (tight_plain fun x hx => h x (by simp [hx]))
theorem tight_lit {t : List Int} (h : t ∈ jlitL) : TightV t := by
  refine tight_plain ?_
  simp only [jlitL, List.mem_cons, List.not_mem_nil, or_false] at h
  rcases h with rfl | rfl | rfl <;> intro c hc <;> simp at hc <;> unfold wsb <;> omega
theorem num_bytes {t : List Int} (h : NumTxt t) : ∀ c ∈ t, c = 43 ∨ c = 45 ∨ c = 46 ∨ c = 101 ∨ c = 69 ∨ isDg c := by
  obtain ⟨sg, I, F, X, hsg, hI, hd, _, hF, hX, rfl⟩ := h
  intro c hc
  rcases List.mem_append.1 hc with hc | hc
  · rcases hsg with rfl | rfl
    · simp at hc
    · simp at hc; unfold isDg; omega
  · rcases List.mem_append.1 hc with hc | hc
    · have := hd c hc; unfold isDg at this ⊢; omega
    · rcases List.mem_append.1 hc with hc | hc
      · rcases hF with rfl | ⟨D, _, hD, rfl⟩
        · simp at hc
        · rcases List.mem_cons.1 hc with rfl | hc
          · unfold isDg; omega
          · have := hD c hc; unfold isDg at this ⊢; omega
      · rcases hX with rfl | ⟨e, z, D, he, hz, _, _, hD, rfl⟩
        · simp at hc
        · rcases List.mem_cons.1 hc with rfl | hc
          · unfold isDg; omega
          · rcases List.mem_append.1 hc with hc | hc
            · rcases hz with rfl | rfl | rfl <;> simp at hc <;> unfold isDg <;> omega
            · have := hD c hc; unfold isDg at this ⊢; omega
theorem tight_num {t : List Int} (h : NumTxt t) : TightV t := tight_plain fun c hc => by
  have h1 := num_bytes h c hc
  unfold isDg at h1
  unfold wsb
  omega
theorem tight_word {w : List Int} (h : w ∈ jstrL) (r : List Int) : tight 1 (w ++ r) = tight 1 r := by
  simp only [jstrL, List.mem_cons, List.not_mem_nil, or_false] at h
  rcases h with rfl | rfl | rfl | rfl | rfl | rfl | rfl | rfl | rfl | rfl | rfl | rfl | rfl | rfl | rfl | rfl <;> simp [tight]
theorem tight_words : ∀ {n : Nat} {u : List Int}, JWords n u → ∀ r, tight 1 (u ++ r) = tight 1 r
  | 0, _, h, r => by rw [h]; rfl
  | n + 1, _, ⟨u, w, hu, hw, e⟩, r => by rw [e, List.append_assoc, tight_words hu, tight_word hw]
theorem tight_str {t : List Int} (h : JStr t) : TightV t := fun r => by
  obtain ⟨n, u, _, hu, rfl⟩ := h
  have h1 := tight_words hu (34 :: r)
  rw [show 34 :: u ++ [34] ++ r = 34 :: (u ++ 34 :: r) from by simp]
  have h2 : tight 0 (34 :: (u ++ 34 :: r)) = tight 1 (u ++ 34 :: r) := by simp [tight]
  rw [h2, h1]
  simp [tight]
theorem tight_join : ∀ (l : List (List Int)), (∀ t ∈ l, TightV t) → TightV (joinC l)
  | [], _ => fun r => rfl
  | [a], h => h a (by simp)
  | a :: b :: r, h => (h a (by simp)).app (TightV.app (a := [44]) (tight_one (by decide) (by decide)) (tight_join (b :: r) fun t ht => h t (by simp at ht ⊢; exact .inr ht)))
theorem tight_val : ∀ (d : Nat) (v : JVal) (t : List Int), JTxt (· ∈ jlitL) NumTxt JStr d v t → TightV (ot d v) := by
  intro d
  induction d with
  | zero => intro v t h; exact h.elim
  | succ d ih =>
    intro v t h
    unfold JTxt at h
    cases v with
    | lit w => exact tight_lit h.1
    | num w => exact tight_num h.1
    | str w => exact tight_str h.1
    | arr l =>
      obtain ⟨hl, s, u, hs, hu, rfl⟩ := h
      refine TightV.app (a := [91]) (tight_one (by decide) (by decide)) (TightV.app (tight_join _ fun t ht => ?_) (tight_one (by decide) (by decide)))
      obtain ⟨x, hx, rfl⟩ := List.mem_map.1 ht
      obtain ⟨tx, htx⟩ := items_mem hu x hx
      exact ih x tx htx
    | obj l =>
      obtain ⟨hl, s, u, hs, hu, rfl⟩ := h
      refine TightV.app (a := [123]) (tight_one (by decide) (by decide)) (TightV.app (tight_join _ fun t ht => ?_) (tight_one (by decide) (by decide)))
      obtain ⟨x, hx, rfl⟩ := List.mem_map.1 ht
      obtain ⟨tx, a, b, c, h1, h2, h3, h4, h5⟩ := items_mem hu x hx
      exact (tight_str h1).app (TightV.app (a := [58]) (tight_one (by decide) (by decide)) (ih _ _ h4))

/-- All that is written is bytes. -/
theorem str_bytes {t : List Int} (h : JStr t) : ∀ c ∈ t, byteN c := by
  have hw : ∀ w ∈ jstrL, ∀ c ∈ w, byteN c := by
    have h1 : (jstrL.all fun w => w.all fun c => decide (0 ≤ c) && decide (c ≤ 255)) = true := by decide
    intro w h2 c hc
    have h3 := List.all_eq_true.1 (List.all_eq_true.1 h1 w h2) c hc
    simp only [Bool.and_eq_true, decide_eq_true_eq] at h3
    exact h3
  have hws : ∀ (n : Nat) (u : List Int), JWords n u → ∀ c ∈ u, byteN c := by
    intro n
    induction n with
    | zero => intro u h c hc; rw [h] at hc; simp at hc
    | succ n ih =>
      rintro _ ⟨u, w, hu, hw2, rfl⟩ c hc
      rcases List.mem_append.1 hc with hc | hc
      · exact ih u hu c hc
      · exact hw w hw2 c hc
  obtain ⟨n, u, _, hu, rfl⟩ := h
  intro c hc
  simp only [List.cons_append, List.mem_cons, List.mem_append, List.not_mem_nil, or_false] at hc
  rcases hc with rfl | hc | rfl
  · unfold byteN; omega
  · exact hws n u hu c hc
  · unfold byteN; omega
theorem bytes_val : ∀ (d : Nat) (v : JVal) (t : List Int), JTxt (· ∈ jlitL) NumTxt JStr d v t → ∀ c ∈ ot d v, byteN c := by
  intro d
  induction d with
  | zero => intro v t h; exact h.elim
  | succ d ih =>
    intro v t h
    unfold JTxt at h
    cases v with
    | lit w =>
      obtain ⟨h, _⟩ := h
      show ∀ c ∈ w, byteN c
      simp only [jlitL, List.mem_cons, List.not_mem_nil, or_false] at h
      rcases h with rfl | rfl | rfl <;> intro c hc <;> simp at hc <;> unfold byteN <;> omega
    | num w =>
      intro c hc
      have h1 := num_bytes h.1 c hc
      unfold isDg at h1
      unfold byteN
      omega
    | str w => exact str_bytes h.1
    | arr l =>
      obtain ⟨hl, s, u, hs, hu, rfl⟩ := h
      intro c hc
      simp only [ot, List.mem_cons, List.mem_append, List.not_mem_nil, or_false] at hc
      rcases hc with rfl | hc | rfl
      · unfold byteN; omega
      · refine joinC_all (P := byteN) (by unfold byteN; omega) _ (fun t ht => ?_) c hc
        obtain ⟨x, hx, rfl⟩ := List.mem_map.1 ht
        obtain ⟨tx, htx⟩ := items_mem hu x hx
        exact ih x tx htx
      · unfold byteN; omega
    | obj l =>
      obtain ⟨hl, s, u, hs, hu, rfl⟩ := h
      intro c hc
      simp only [ot, List.mem_cons, List.mem_append, List.not_mem_nil, or_false] at hc
      rcases hc with rfl | hc | rfl
      · unfold byteN; omega
      · refine joinC_all (P := byteN) (by unfold byteN; omega) _ (fun t ht => ?_) c hc
        obtain ⟨x, hx, rfl⟩ := List.mem_map.1 ht
        obtain ⟨tx, a, b, c2, h1, h2, h3, h4, h5⟩ := items_mem hu x hx
        intro c hc
        rcases List.mem_append.1 hc with hc | hc
        · exact str_bytes h1 c hc
        · rcases List.mem_cons.1 hc with rfl | hc
          · unfold byteN; omega
          · exact ih _ _ h4 c hc
      · unfold byteN; omega

theorem flatMap_len {α β : Type} (g : α → List β) (k : Nat) (h : ∀ x, (g x).length = k) : ∀ l : List α, (l.flatMap g).length = k * l.length
  | [] => by simp
  | x :: l => by rw [List.flatMap_cons, List.length_append, h, flatMap_len g k h l, List.length_cons, Nat.mul_succ]; omega
/-- The trees are the same, but for how numbers are written. -/
theorem same_out (hN : ∀ u, N u → valL (f u) = valL u) : ∀ (d : Nat) (v : JVal) (t : List Int), JTxt (· ∈ jlitL) N K d v t → SameT d (tr d v) (tr d (nv f d v)) := by
  intro d
  induction d with
  | zero => intro v t h; exact h.elim
  | succ d ih =>
    intro v t h
    unfold JTxt at h
    unfold SameT
    cases v with
    | lit w => exact ⟨rfl, rfl, rfl, by simp [tr, JT.ks], fun i x y hx => by simp [tr, JT.ks] at hx⟩
    | num w => exact ⟨rfl, by simp only [tr, nv, JT.t]; rw [hN _ h.1], rfl, by simp [tr, JT.ks], fun i x y hx => by simp [tr, JT.ks] at hx⟩
    | str w => exact ⟨rfl, rfl, rfl, by simp [tr, JT.ks], fun i x y hx => by simp [tr, JT.ks] at hx⟩
    | arr l =>
      obtain ⟨hl, s, u, hs, hu, rfl⟩ := h
      refine ⟨rfl, rfl, by simp [tr, nv, JT.ks], by simp [tr, JT.ks]; omega, fun i x y hx hy => ?_⟩
      simp only [tr, nv, JT.ks, List.map_map, List.getElem?_map] at hx hy
      cases hi : l[i]? with
      | none => rw [hi] at hx; simp at hx
      | some z =>
        rw [hi] at hx hy
        simp at hx hy
        subst hx hy
        obtain ⟨tx, htx⟩ := items_mem hu z (List.mem_of_getElem? hi)
        exact ih z tx htx
    | obj l =>
      obtain ⟨hl, s, u, hs, hu, rfl⟩ := h
      have hgen : ∀ (l : List (List Int × JVal)), (∀ p ∈ l, ∃ t, JTxt (· ∈ jlitL) N K d p.2 t) → ∀ (i : Nat) (x y : JT), (l.flatMap fun p => [JT.mk 115 (strMean p.1) [] ⟨#[]⟩, tr d p.2])[i]? = some x → ((l.map fun p => (p.1, nv f d p.2)).flatMap fun p => [JT.mk 115 (strMean p.1) [] ⟨#[]⟩, tr d p.2])[i]? = some y → SameT d x y := by
        intro l
        induction l with
        | nil => intro _ i x y hx; simp at hx
        | cons p l ihl =>
          intro hall i x y hx hy
          rw [List.flatMap_cons] at hx
          rw [List.map_cons, List.flatMap_cons] at hy
          obtain ⟨tp, htp⟩ := hall p (by simp)
          match i with
          | 0 =>
            simp at hx hy
            subst hx hy
            cases d with
            | zero => exact htp.elim
            | succ d => exact ⟨rfl, rfl, rfl, by simp [JT.ks], fun i x y hx => by simp [JT.ks] at hx⟩
          | 1 =>
            simp at hx hy
            subst hx hy
            exact ih _ _ htp
          | i + 2 =>
            simp at hx hy
            exact ihl (fun q hq => hall q (by simp [hq])) i x y hx (by simpa using hy)
      refine ⟨rfl, rfl, ?_, ?_, ?_⟩
      · simp only [tr, nv, JT.ks]
        rw [flatMap_len _ 2 (fun x => rfl), flatMap_len _ 2 (fun x => rfl), List.length_map]
      · simp only [tr, JT.ks]
        rw [flatMap_len _ 2 (fun x => rfl)]
        omega
      · intro i x y hx hy
        refine hgen l (fun p hp => ?_) i x y hx hy
        obtain ⟨tx, a, b, c, h1, h2, h3, h4, h5⟩ := items_mem hu p hp
        exact ⟨_, h4⟩
theorem wr_refl : ∀ (d : Nat) (v : JVal) (t : List Int), JTxt (· ∈ jlitL) N K d v t → WrT d (tr d v) (tr d v) := by
  intro d
  induction d with
  | zero => intro v t h; exact h.elim
  | succ d ih =>
    intro v t h
    unfold JTxt at h
    unfold WrT
    cases v with
    | lit w => exact ⟨rfl, rfl, by simp [tr, JT.ks], fun i x y hx => by simp [tr, JT.ks] at hx⟩
    | num w => exact ⟨rfl, rfl, by simp [tr, JT.ks], fun i x y hx => by simp [tr, JT.ks] at hx⟩
    | str w => exact ⟨rfl, rfl, by simp [tr, JT.ks], fun i x y hx => by simp [tr, JT.ks] at hx⟩
    | arr l =>
      obtain ⟨hl, s, u, hs, hu, rfl⟩ := h
      refine ⟨rfl, rfl, by simp [tr, JT.ks]; omega, fun i x y hx hy => ?_⟩
      rw [hx] at hy
      have hxy : x = y := by simpa using hy
      subst hxy
      simp only [tr, JT.ks, List.getElem?_map] at hx
      cases hi : l[i]? with
      | none => rw [hi] at hx; simp at hx
      | some z =>
        rw [hi] at hx
        simp at hx
        subst hx
        obtain ⟨tx, htx⟩ := items_mem hu z (List.mem_of_getElem? hi)
        exact ih z tx htx
    | obj l =>
      obtain ⟨hl, s, u, hs, hu, rfl⟩ := h
      refine ⟨rfl, rfl, ?_, fun i x y hx hy => ?_⟩
      · simp only [tr, JT.ks]
        rw [flatMap_len _ 2 (fun x => rfl)]
        omega
      rw [hx] at hy
      have hxy : x = y := by simpa using hy
      subst hxy
      simp only [tr, JT.ks] at hx
      have hm := List.mem_of_getElem? hx
      obtain ⟨p, hp, hpm⟩ := List.mem_flatMap.1 hm
      obtain ⟨tx, a, b, c, h1, h2, h3, h4, h5⟩ := items_mem hu p hp
      simp only [List.mem_cons, List.not_mem_nil, or_false] at hpm
      rcases hpm with rfl | rfl
      · cases d with
        | zero => exact h4.elim
        | succ d => exact ⟨rfl, rfl, by simp [JT.ks], fun i x y hx => by simp [JT.ks] at hx⟩
      · exact ih _ _ h4
theorem nv_id : ∀ (d : Nat) (v : JVal), nv (fun u => u) d v = v := by
  intro d
  induction d with
  | zero => intro v; rfl
  | succ d ih =>
    intro v
    cases v with
    | lit w => rfl
    | num w => rfl
    | str w => rfl
    | arr l =>
      simp only [nv]
      congr 1
      exact (List.map_congr_left fun x _ => ih x).trans (List.map_id' _)
    | obj l =>
      simp only [nv]
      congr 1
      exact (List.map_congr_left fun x _ => by rw [ih]).trans (List.map_id' _)
end

end Go.Proofs.YthoekplablhgfaaGreatDoor
