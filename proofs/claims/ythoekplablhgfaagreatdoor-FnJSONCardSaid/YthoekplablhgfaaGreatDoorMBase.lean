/-
  The contracts of the seats small makers: pick, of, how, word, few.
-/
import Derived.Test.YthoekplablhgfaaGreatDoorRows
import Derived.WalkKit
import Derived.WalkSpells
import Derived.WalkLawsBesides
import Derived.Lib.Hide
import Derived.Below
import Derived.Laws.Rows
import Derived.Deep.RegionHeld3
import Derived.Deep.DrawnRows

/- Pick -/
namespace Go.Proofs.YthoekplablhgfaaGreatDoor
open Go.RowKit

/-- A slice of numbers that reads as xs, below block B. -/
def RInts (w : World) (B : Nat) (A : Option Addr) (n : Nat) (xs : List Int) : Prop :=
  xs.length = n ∧ n ≤ 9223372036854775807 ∧ (0 < n → ∃ ad, A = some ad ∧ ad.block < B ∧ ∀ j, j < n → w.cell? (ad.add j) = some (.int .i64 (xs.getD j 0)))

def PickPost (g o : Nat) (cnt N : Int) (w : World) (e : Ending) (w' : World) : Prop :=
  ∃ r : Int, 0 ≤ r ∧ r < N ∧ e = .returned (.int .i64 r) ∧ (w' = w ∨ w' = w.setCell ⟨g, o, none⟩ (.int .i64 (cnt + 1)))

set_option maxHeartbeats 800000 in
theorem pick_few (A : Option Addr) (n c g o : Nat) (N : Int) (w : World) (cnt : Int) (h : n = 0 ∨ N < 2) (hN : 1 ≤ N) :
    Calls Tryz.prog 26 #[.slice A n c, .pointer (some ⟨g, o, none⟩), .int .i64 N] w (PickPost g o cnt N w) := by
  by_cases h0 : n = 0
  · subst h0
    go_enter Tryz.func26, Tryz.ntmps26
    go_wp2
    go_ret
    exact ⟨0, by omega, by omega, rfl, .inl rfl⟩
  · have h1 : N < 2 := by omega
    have h2 : decide ((n : Int) = 0) = false := by simp; omega
    have h3 : ((n : Int) == 0) = false := by simp; omega
    clear h
    go_enter Tryz.func26, Tryz.ntmps26
    go_wp2
    go_ret
    exact ⟨0, by omega, by omega, rfl, .inl rfl⟩

set_option maxHeartbeats 1600000 in
theorem pick_many (A : Option Addr) (n c g o B : Nat) (xs : List Int) (N : Int) (w : World) (cnt : Int) (hn : 0 < n) (hN : 2 ≤ N) (hN2 : N ≤ 1000000) (h0 : 0 ≤ cnt) (h1 : cnt ≤ 1000000000000)
    (hr : RInts w B A n xs) (hc : w.cell? ⟨g, o, none⟩ = some (.int .i64 cnt)) (hf : w.frozen? ⟨g, o, none⟩ = false) :
    Calls Tryz.prog 26 #[.slice A n c, .pointer (some ⟨g, o, none⟩), .int .i64 N] w (PickPost g o cnt N w) := by
  obtain ⟨hl, hm, ha⟩ := hr
  obtain ⟨ad, rfl, hb, hcell⟩ := ha hn
  have hi0 : 0 ≤ cnt % (n : Int) := Int.emod_nonneg _ (by omega)
  have hi1 : cnt % (n : Int) < n := Int.emod_lt_of_pos _ (by omega)
  have hx := hcell (cnt % (n : Int)).toNat (by omega)
  obtain ⟨x, hxx⟩ : ∃ x, x = xs.getD (cnt % (n : Int)).toNat 0 := ⟨_, rfl⟩
  rw [← hxx] at hx
  clear hcell hxx hl
  have h3 : ((n : Int) == 0) = false := by simp; omega
  have h4 : ¬ N < 2 := by omega
  have h5 : x.tmod N < N ∧ -N < x.tmod N := by
    have e1 := Int.natAbs_tmod x N
    have e2 : x.natAbs % N.natAbs < N.natAbs := Nat.mod_lt _ (by omega)
    omega
  go_enter Tryz.func26, Tryz.ntmps26
  go_wp2
  · have h6 : x.tmod N < 0 := by assumption
    go_ret
    exact ⟨x.tmod N + N, by omega, by omega, rfl, .inr rfl⟩
  · have h6 : 0 ≤ x.tmod N := by omega
    go_ret
    exact ⟨x.tmod N, by omega, by omega, rfl, .inr rfl⟩

/-- pick, whatever it is asked. -/
theorem pick_any (A : Option Addr) (n c g o B : Nat) (xs : List Int) (N : Int) (w : World) (cnt : Int) (hN : 1 ≤ N) (hN2 : N ≤ 1000000) (h0 : 0 ≤ cnt) (h1 : cnt ≤ 1000000000000)
    (hr : RInts w B A n xs) (hc : w.cell? ⟨g, o, none⟩ = some (.int .i64 cnt)) (hf : w.frozen? ⟨g, o, none⟩ = false) :
    Calls Tryz.prog 26 #[.slice A n c, .pointer (some ⟨g, o, none⟩), .int .i64 N] w (PickPost g o cnt N w) := by
  by_cases h : n = 0 ∨ N < 2
  · exact pick_few A n c g o N w cnt h hN
  · exact pick_many A n c g o B xs N w cnt (by omega) (by omega) hN2 h0 h1 hr hc hf

/-- Block g is a maker: its two slices read as numbers below B, its counters are at most a and b. -/
def Mk (w : World) (g B : Nat) (a b : Int) : Prop :=
  ∃ (A1 A2 : Option Addr) (n1 c1 n2 c2 : Nat) (xs ys : List Int) (at_ by_ : Int) (f1 f2 : Bool),
    w.heap[g]? = some (.cells #[.slice A1 n1 c1, .slice A2 n2 c2, .int .i64 at_, .int .i64 by_, .bool f1, .bool f2] 37 (0, 0)) ∧
    B ≤ g ∧ RInts w B A1 n1 xs ∧ RInts w B A2 n2 ys ∧ 0 ≤ at_ ∧ at_ ≤ a ∧ 0 ≤ by_ ∧ by_ ≤ b ∧ a ≤ 1000000000000 ∧ b ≤ 1000000000000

theorem RInts.keep {w w' : World} {B : Nat} {A : Option Addr} {n : Nat} {xs : List Int} (h : RInts w B A n xs) (hk : ∀ k, k < B → w'.heap[k]? = w.heap[k]?) : RInts w' B A n xs := by
  refine ⟨h.1, h.2.1, fun hn => ?_⟩
  obtain ⟨ad, e, hb, hc⟩ := h.2.2 hn
  refine ⟨ad, e, hb, fun j hj => ?_⟩
  rw [World.cell?_of_block (w := w) (w' := w')]
  · exact hc j hj
  · have : (ad.add j).block = ad.block := by unfold Addr.add; split <;> rfl
    rw [this]; exact hk _ hb

theorem Mk.keep {w w' : World} {g B : Nat} {a b a' b' : Int} (h : Mk w g B a b) (hk : ∀ k, k ≤ g → w'.heap[k]? = w.heap[k]?) (ha : a ≤ a') (hb : b ≤ b') (ha2 : a' ≤ 1000000000000) (hb2 : b' ≤ 1000000000000) : Mk w' g B a' b' := by
  obtain ⟨A1, A2, n1, c1, n2, c2, xs, ys, at_, by_, f1, f2, hh, hB, r1, r2, h1, h2, h3, h4, h5, h6⟩ := h
  exact ⟨A1, A2, n1, c1, n2, c2, xs, ys, at_, by_, f1, f2, (hk g (Nat.le_refl _)).trans hh, hB, r1.keep fun k hk' => hk k (by omega), r2.keep fun k hk' => hk k (by omega), h1, by omega, h3, by omega, ha2, hb2⟩

theorem Mk.lt {w : World} {g B : Nat} {a b : Int} (h : Mk w g B a b) : g < w.heap.size := by
  obtain ⟨A1, A2, n1, c1, n2, c2, xs, ys, at_, by_, f1, f2, hh, _⟩ := h
  exact (Array.getElem?_eq_some_iff.1 hh).1

theorem Mk.grown {w w' : World} {g B : Nat} {a b a' b' : Int} (h : Mk w g B a b) (hg : w.grownBy w' none) (ha : a ≤ a') (hb : b ≤ b') (ha2 : a' ≤ 1000000000000) (hb2 : b' ≤ 1000000000000) : Mk w' g B a' b' :=
  h.keep (fun k hk => hg.block k (by have := h.lt; omega) (by simp)) ha hb ha2 hb2

/-- What a call of of or how leaves. -/
def OfPost (g B : Nat) (a b N : Int) (w : World) (e : Ending) (w' : World) : Prop :=
  ∃ r : Int, 0 ≤ r ∧ r < N ∧ e = .returned (.int .i64 r) ∧ Mk w' g B a b ∧ w.grownBy w' (some g)

theorem grownBy_refl' (w : World) (r : Option Nat) : w.grownBy w r := ⟨rfl, rfl, rfl, Nat.le_refl _, fun _ _ _ => rfl⟩
theorem grownBy_drew {w w' : World} {r : Option Nat} (h : w.drew.grownBy w' r) : w.grownBy w' r := ⟨h.os, h.tape, h.output, h.size, h.block⟩
theorem grownBy_set (w : World) (g o : Nat) (v : Value) : w.grownBy (w.setCell ⟨g, o, none⟩ v) (some g) :=
  ⟨rfl, rfl, rfl, by simp [World.setCell], fun k _ hk => Below.heap_setCell _ _ _ _ (fun e => hk (by rw [e]))⟩

theorem heap_set {w : World} {g o : Nat} {cs : Array Value} {t : TypeId} (h : w.heap[g]? = some (.cells cs t (0, 0))) (v : Value) :
    (w.setCell ⟨g, o, none⟩ v).heap[g]? = some (.cells (cs.setIfInBounds o v) t (0, 0)) := by
  simp [World.setCell, Array.getElem?_modify, h]

theorem cell_set_other {w : World} (g o j : Nat) (v : Value) (h : o ≠ j) : (w.setCell ⟨g, o, none⟩ v).cell? ⟨g, j, none⟩ = w.cell? ⟨g, j, none⟩ :=
  World.cell?_setCell_other w _ _ v (fun e => h (by injection e))
set_option maxHeartbeats 1600000 in
theorem of_any (g B : Nat) (a b N : Int) (w : World) (hN : 1 ≤ N) (hN2 : N ≤ 1000000) (h : Mk w g B a b) (ha : a ≤ 999999999999) :
    Calls Tryz.prog 18 #[.pointer (some ⟨g, 0, none⟩), .int .i64 N] w (OfPost g B (a + 1) b N w) := by
  obtain ⟨A1, A2, n1, c1, n2, c2, xs, ys, at_, by_, f1, f2, hh, hB, r1, r2, h1, h2, h3, h4, h5, h6⟩ := h
  have k0 : w.cell? ⟨g, 0, none⟩ = some (.slice A1 n1 c1) := by rw [cell_of_row w g 0 _ _ _ hh]; rfl
  have k2 : w.cell? ⟨g, 2, none⟩ = some (.int .i64 at_) := by rw [cell_of_row w g 2 _ _ _ hh]; rfl
  have f2' : w.frozen? ⟨g, 2, none⟩ = false := by simp [World.frozen?, hh]
  have HH := Lib.hid hh
  clear hh
  go_enter Tryz.func18, Tryz.ntmps18
  go_wp2
  go_region_held3 (fun w' => w'.cell? ⟨g, 0, none⟩ = some (.slice A1 n1 c1)) (go_keep)
    ((go_at_call 26; refine (pick_any A1 n1 c1 g 2 B xs N _ at_ hN hN2 h1 (by omega) (by exact r1) (by exact k2) (by exact f2')).mono ?_; rintro e w' ⟨r, hr0, hr1, rfl, hw⟩; have k0' : w'.cell? ⟨g, 0, none⟩ = some (.slice A1 n1 c1) := (by rcases hw with rfl | rfl <;> first | exact k0 | exact (cell_set_other g 2 0 _ (by omega)).trans k0)))
  go_wp2
  go_ret
  have hg : w.grownBy w' (some g) := by
    rcases hw with rfl | rfl
    · exact ⟨rfl, rfl, rfl, Nat.le_refl _, fun _ _ _ => rfl⟩
    · exact grownBy_drew (grownBy_set w.drew g 2 _)
  refine ⟨r, hr0, hr1, rfl, ?_, hg⟩
  rcases hw with rfl | rfl
  · exact ⟨A1, A2, n1, c1, n2, c2, xs, ys, at_, by_, f1, f2, HH.out, hB, r1, r2, h1, by omega, h3, by omega, by omega, by omega⟩
  · refine ⟨A1, A2, n1, c1, n2, c2, xs, ys, at_ + 1, by_, f1, f2, (heap_set (w := w.drew) HH.out _).trans rfl, hB, r1.keep fun k hk => ?_, r2.keep fun k hk => ?_, by omega, by omega, h3, by omega, by omega, by omega⟩
    · exact Below.heap_setCell _ _ _ _ (by show k ≠ g; omega)
    · exact Below.heap_setCell _ _ _ _ (by show k ≠ g; omega)

end Go.Proofs.YthoekplablhgfaaGreatDoor

/- Word -/
namespace Go.Proofs.YthoekplablhgfaaGreatDoor
open Go.RowKit

/-- A slice of texts that lies whole in block h. -/
def RStrs (w : World) (h n : Nat) (ss : List ByteArray) : Prop :=
  ss.length = n ∧ ∃ t cs, w.heap[h]? = some (.cells cs t (0, 0)) ∧ ∀ j, j < n → cs[j]? = some (.string (ss.getD j ByteArray.empty))

def WordPost (ss : List ByteArray) (g B : Nat) (a b : Int) (w : World) (e : Ending) (w' : World) : Prop :=
  ∃ s, s ∈ ss ∧ e = .returned (.string s) ∧ Mk w' g B a b ∧ w.grownBy w' (some g)

theorem grownBy_trans {w w1 w2 : World} {r : Option Nat} (h : w.grownBy w1 r) (k : w1.grownBy w2 r) : w.grownBy w2 r :=
  ⟨k.os.trans h.os, k.tape.trans h.tape, k.output.trans h.output, Nat.le_trans h.size k.size, fun i hi hr => (k.block i (Nat.lt_of_lt_of_le hi h.size) hr).trans (h.block i hi hr)⟩

theorem RStrs.of {w : World} {h n : Nat} {t : TypeId} (ss : List ByteArray) (hh : w.heap[h]? = some (.cells (ss.map Value.string).toArray t (0, 0))) (hn : ss.length = n) : RStrs w h n ss := by
  refine ⟨hn, t, _, hh, fun j hj => ?_⟩
  simp [List.getElem?_eq_getElem (show j < ss.length by omega)]

/-- A world with one block more, its number said beside it. -/
theorem RStrs.new {w : World} {h n : Nat} {t : TypeId} (ss : List ByteArray) (hh : w.heap.size = h) (hn : ss.length = n) : RStrs (w.alloc (.cells (ss.map Value.string).toArray t)) h n ss := by
  subst hh
  exact RStrs.of ss (heap_alloc_new w _) hn

theorem Mk.alloc {w : World} {g B : Nat} {a b : Int} (h : Mk w g B a b) (o : Obj) : Mk (w.alloc o) g B a b :=
  h.keep (fun k hk => Below.heap_alloc w o k (by have := h.lt; omega)) (Int.le_refl _) (Int.le_refl _) (by obtain ⟨_, _, _, _, _, _, _, _, _, _, _, _, _, _, _, _, _, _, _, _, h1, _⟩ := h; exact h1) (by obtain ⟨_, _, _, _, _, _, _, _, _, _, _, _, _, _, _, _, _, _, _, _, _, h1⟩ := h; exact h1)

/-- A maker that has just been made. -/
theorem Mk.new {w : World} {A1 A2 : Option Addr} {n1 c1 n2 c2 g : Nat} {xs ys : List Int} (hg : w.heap.size = g) (r1 : RInts w g A1 n1 xs) (r2 : RInts w g A2 n2 ys) :
    Mk (w.alloc (.cells #[.slice A1 n1 c1, .slice A2 n2 c2, .int .i64 0, .int .i64 0, .bool false, .bool false] 37)) g g 0 0 := by
  subst hg
  refine ⟨A1, A2, n1, c1, n2, c2, xs, ys, 0, 0, false, false, heap_alloc_new w _, Nat.le_refl _, r1.keep fun k hk => Below.heap_alloc w _ k hk, r2.keep fun k hk => Below.heap_alloc w _ k hk, ?_⟩
  omega

/-- A call's answer, the block ahead of it forgotten: what the walk goes on from. -/
theorem Mk.at_most {w : World} {g B : Nat} {a b a' b' : Int} (h : Mk w g B a b) (ha : a ≤ a') (hb : b ≤ b') (ha2 : a' ≤ 1000000000000) (hb2 : b' ≤ 1000000000000) : Mk w g B a' b' :=
  h.keep (fun _ _ => rfl) ha hb ha2 hb2

set_option maxHeartbeats 1600000 in
theorem word_any (g B h n : Nat) (a b : Int) (ss : List ByteArray) (w : World) (hm : Mk w g B a b) (ha : a ≤ 999999999999) (hs : RStrs w h n ss) (hne : h ≠ g) (hn : 1 ≤ n) (hn2 : n ≤ 1000) :
    Calls Tryz.prog 19 #[.pointer (some ⟨g, 0, none⟩), .slice (some ⟨h, 0, none⟩) n n] w (WordPost ss g B (a + 1) b w) := by
  obtain ⟨hl, t, cs, hh, hc⟩ := hs
  have HL := Lib.hid hl
  clear hl
  go_enter Tryz.func19, Tryz.ntmps19
  go_wp2_with fail
  refine (of_any g B a b n w (by omega) (by omega) hm ha).mono ?_
  rintro e w' ⟨r, hr0, hr1, rfl, hm', hg⟩
  have hlt : h < w.heap.size := (Array.getElem?_eq_some_iff.1 hh).1
  have hh' : w'.heap[h]? = some (.cells cs t (0, 0)) := (hg.block h hlt (by simpa using hne)).trans hh
  have hcell : w'.cell? ⟨h, r.toNat, none⟩ = some (.string (ss.getD r.toNat ByteArray.empty)) := by
    rw [cell_of_row w' h _ _ _ _ hh']
    exact hc _ (by omega)
  obtain ⟨s, hs⟩ : ∃ s, ss.getD r.toNat ByteArray.empty = s := ⟨_, rfl⟩
  rw [hs] at hcell
  have HS := Lib.hid hs
  clear hs hc hh hh'
  go_wp2
  go_ret
  refine ⟨s, ?_, rfl, hm', hg⟩
  have h1 := HS.out
  have h2 := HL.out
  rw [← h1, List.getD_eq_getElem?_getD, List.getElem?_eq_getElem (by omega)]
  exact List.getElem_mem _

end Go.Proofs.YthoekplablhgfaaGreatDoor

/- Few -/
namespace Go.Proofs.YthoekplablhgfaaGreatDoor
open Go.RowKit

theorem RInts.take {w : World} {B : Nat} {A : Option Addr} {n : Nat} {xs : List Int} (h : RInts w B A n xs) (m : Nat) (hm : m ≤ n) : RInts w B A m (xs.take m) := by
  obtain ⟨h1, h2, h3⟩ := h
  refine ⟨by rw [List.length_take]; omega, by omega, fun hp => ?_⟩
  obtain ⟨ad, e, hb, hc⟩ := h3 (by omega)
  refine ⟨ad, e, hb, fun j hj => ?_⟩
  rw [hc j (by omega), List.getD_eq_getElem?_getD, List.getD_eq_getElem?_getD, List.getElem?_take, if_pos hj]

theorem few_any (A : Option Addr) (n c : Nat) (xs : List Int) (w : World) (hr : RInts w w.heap.size A n xs) (hc : n ≤ c) (hc2 : c ≤ 9223372036854775807) :
    Calls Tryz.prog 5 #[.slice A n c] w fun e w' => e = .returned (.slice A (min n 300) c) ∧ w = w' := by
  have hn := hr.2.1
  clear hr
  by_cases h : n ≤ 300
  · have e : min n 300 = n := by omega
    rw [e]
    clear e
    have h' : ¬ 300 < n := by omega
    go_enter Tryz.func5, Tryz.ntmps5
    go_wp2
    go_ret
    exact ⟨rfl, rfl⟩
  · have e : min n 300 = 300 := by omega
    rw [e]
    clear e
    go_enter Tryz.func5, Tryz.ntmps5
    go_wp2
    go_ret
    exact ⟨rfl, rfl⟩

end Go.Proofs.YthoekplablhgfaaGreatDoor

/- How -/
namespace Go.Proofs.YthoekplablhgfaaGreatDoor
open Go.RowKit

set_option maxHeartbeats 1600000 in
theorem how_any (g B : Nat) (a b N : Int) (w : World) (hN : 1 ≤ N) (hN2 : N ≤ 1000000) (h : Mk w g B a b) (hb : b ≤ 999999999999) :
    Calls Tryz.prog 17 #[.pointer (some ⟨g, 0, none⟩), .int .i64 N] w (OfPost g B a (b + 1) N w) := by
  obtain ⟨A1, A2, n1, c1, n2, c2, xs, ys, at_, by_, f1, f2, hh, hB, r1, r2, h1, h2, h3, h4, h5, h6⟩ := h
  have k0 : w.cell? ⟨g, 1, none⟩ = some (.slice A2 n2 c2) := by rw [cell_of_row w g 1 _ _ _ hh]; rfl
  have k2 : w.cell? ⟨g, 3, none⟩ = some (.int .i64 by_) := by rw [cell_of_row w g 3 _ _ _ hh]; rfl
  have f2' : w.frozen? ⟨g, 3, none⟩ = false := by simp [World.frozen?, hh]
  have HH := Lib.hid hh
  clear hh
  go_enter Tryz.func17, Tryz.ntmps17
  go_wp2
  go_region_held3 (fun w' => w'.cell? ⟨g, 1, none⟩ = some (.slice A2 n2 c2)) (go_keep)
    ((go_at_call 26; refine (pick_any A2 n2 c2 g 3 B ys N _ by_ hN hN2 h3 (by omega) (by exact r2) (by exact k2) (by exact f2')).mono ?_; rintro e w' ⟨r, hr0, hr1, rfl, hw⟩; have k0' : w'.cell? ⟨g, 1, none⟩ = some (.slice A2 n2 c2) := (by rcases hw with rfl | rfl <;> first | exact k0 | exact (cell_set_other g 3 1 _ (by omega)).trans k0)))
  go_wp2
  go_ret
  have hg : w.grownBy w' (some g) := by
    rcases hw with rfl | rfl
    · exact ⟨rfl, rfl, rfl, Nat.le_refl _, fun _ _ _ => rfl⟩
    · exact grownBy_drew (grownBy_set w.drew g 3 _)
  refine ⟨r, hr0, hr1, rfl, ?_, hg⟩
  rcases hw with rfl | rfl
  · exact ⟨A1, A2, n1, c1, n2, c2, xs, ys, at_, by_, f1, f2, HH.out, hB, r1, r2, h1, by omega, h3, by omega, by omega, by omega⟩
  · refine ⟨A1, A2, n1, c1, n2, c2, xs, ys, at_, by_ + 1, f1, f2, (heap_set (w := w.drew) HH.out _).trans rfl, hB, r1.keep fun k hk => ?_, r2.keep fun k hk => ?_, h1, by omega, by omega, by omega, by omega, by omega⟩
    · exact Below.heap_setCell _ _ _ _ (by show k ≠ g; omega)
    · exact Below.heap_setCell _ _ _ _ (by show k ≠ g; omega)

end Go.Proofs.YthoekplablhgfaaGreatDoor
