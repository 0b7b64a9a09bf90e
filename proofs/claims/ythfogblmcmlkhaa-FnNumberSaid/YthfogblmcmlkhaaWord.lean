/-
  The contract of (*spec.maker).word: one of the texts that it is handed.
-/
import Derived.Test.YthfogblmcmlkhaaPick
namespace Go.Proofs.Ythfogblmcmlkhaa
open Go.RowKit

/-- A slice of texts that lies whole in block h. -/
def RStrs (w : World) (h n : Nat) (ss : List ByteArray) : Prop :=
  ss.length = n ∧ ∃ t cs, w.heap[h]? = some (.cells cs t (0, 0)) ∧ ∀ j, j < n → cs[j]? = some (.string (ss.getD j ByteArray.empty))

def WordPost (ss : List ByteArray) (g B : Nat) (a b : Int) (w : World) (e : Ending) (w' : World) : Prop :=
  ∃ s, s ∈ ss ∧ e = .returned (.string s) ∧ Mk w' g B a b ∧ w.grownBy w' (some g)

theorem grownBy_trans {w w1 w2 : World} {r : Option Nat} (h : w.grownBy w1 r) (k : w1.grownBy w2 r) : w.grownBy w2 r :=
  ⟨k.os.trans h.os, k.tape.trans h.tape, k.output.trans h.output, Nat.le_trans h.size k.size, fun i hi hr => (k.block i (Nat.lt_of_lt_of_le hi h.size) hr).trans (h.block i hi hr)⟩

theorem RStrs.of {w : World} {h n : Nat} {t : TypeId} (ss : List ByteArray) (hh : w.heap[h]? = some (.cells (ss.map Value.string).toArray t (0, 0))) (hn : ss.length = n) : RStrs w h n ss := by
  refine ⟨hn, t, _, hh, fun j hj => ?_⟩
  simp [List.getElem?_eq_getElem (show j < ss.length by omega)]

/-- A world with one block more, its number said beside it. -/
theorem RStrs.new {w : World} {h n : Nat} {t : TypeId} (ss : List ByteArray) (hh : w.heap.size = h) (hn : ss.length = n) : RStrs (w.alloc (.cells (ss.map Value.string).toArray t)) h n ss := by
  subst hh
  exact RStrs.of ss (heap_alloc_new w _) hn

theorem Mk.alloc {w : World} {g B : Nat} {a b : Int} (h : Mk w g B a b) (o : Obj) : Mk (w.alloc o) g B a b :=
  h.keep (fun k hk => Below.heap_alloc w o k (by have := h.lt; omega)) (Int.le_refl _) (Int.le_refl _) (by obtain ⟨_, _, _, _, _, _, _, _, _, _, _, _, _, _, _, _, _, _, _, _, h1, _⟩ := h; exact h1) (by obtain ⟨_, _, _, _, _, _, _, _, _, _, _, _, _, _, _, _, _, _, _, _, _, h1⟩ := h; exact h1)

/-- A maker that has just been made. -/
theorem Mk.new {w : World} {A1 A2 : Option Addr} {n1 c1 n2 c2 g : Nat} {xs ys : List Int} (hg : w.heap.size = g) (r1 : RInts w g A1 n1 xs) (r2 : RInts w g A2 n2 ys) :
    Mk (w.alloc (.cells #[.slice A1 n1 c1, .slice A2 n2 c2, .int .i64 0, .int .i64 0, .bool false, .bool false] 30)) g g 0 0 := by
  subst hg
  refine ⟨A1, A2, n1, c1, n2, c2, xs, ys, 0, 0, false, false, heap_alloc_new w _, Nat.le_refl _, r1.keep fun k hk => Below.heap_alloc w _ k hk, r2.keep fun k hk => Below.heap_alloc w _ k hk, ?_⟩
  omega

/-- A call's answer, the block ahead of it forgotten: what the walk goes on from. -/
theorem Mk.at_most {w : World} {g B : Nat} {a b a' b' : Int} (h : Mk w g B a b) (ha : a ≤ a') (hb : b ≤ b') (ha2 : a' ≤ 1000000000000) (hb2 : b' ≤ 1000000000000) : Mk w g B a' b' :=
  h.keep (fun _ _ => rfl) ha hb ha2 hb2

set_option maxHeartbeats 1600000 in
theorem word_any (g B h n : Nat) (a b : Int) (ss : List ByteArray) (w : World) (hm : Mk w g B a b) (ha : a ≤ 999999999999) (hs : RStrs w h n ss) (hne : h ≠ g) (hn : 1 ≤ n) (hn2 : n ≤ 1000) :
    Calls Try.prog 11 #[.pointer (some ⟨g, 0, none⟩), .slice (some ⟨h, 0, none⟩) n n] w (WordPost ss g B (a + 1) b w) := by
  obtain ⟨hl, t, cs, hh, hc⟩ := hs
  have HL := Lib.hid hl
  clear hl
  go_enter Try.func11, Try.ntmps11
  go_wp2_with fail
  refine (of_any g B a b n w (by omega) (by omega) hm ha).mono ?_
  rintro e w' ⟨r, hr0, hr1, rfl, hm', hg⟩
  have hlt : h < w.heap.size := (Array.getElem?_eq_some_iff.1 hh).1
  have hh' : w'.heap[h]? = some (.cells cs t (0, 0)) := (hg.block h hlt (by simpa using hne)).trans hh
  have hcell : w'.cell? ⟨h, r.toNat, none⟩ = some (.string (ss.getD r.toNat ByteArray.empty)) := by
    rw [cell_of_row w' h _ _ _ _ hh']
    exact hc _ (by omega)
  obtain ⟨s, hs⟩ : ∃ s, ss.getD r.toNat ByteArray.empty = s := ⟨_, rfl⟩
  rw [hs] at hcell
  have HS := Lib.hid hs
  clear hs hc hh hh'
  go_wp2
  go_ret
  refine ⟨s, ?_, rfl, hm', hg⟩
  have h1 := HS.out
  have h2 := HL.out
  rw [← h1, List.getD_eq_getElem?_getD, List.getElem?_eq_getElem (by omega)]
  exact List.getElem_mem _

end Go.Proofs.Ythfogblmcmlkhaa
