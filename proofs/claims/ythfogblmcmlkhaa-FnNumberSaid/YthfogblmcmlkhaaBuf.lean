/-
  Bytes in a block.
-/
import Derived.Test.YthfogblmcmlkhaaWord
import Derived.Laws.BytesArg
namespace Go.Proofs.Ythfogblmcmlkhaa
open Go.RowKit
set_option linter.unusedVariables false

/-- Block h holds the bytes xs, and tail behind them. -/
def Buf (w : World) (h : Nat) (xs : List Int) (tail : List Value) : Prop :=
  w.heap[h]? = some (.cells (xs.map (Value.int .u8) ++ tail).toArray 5 (0, 0))
theorem Buf.lt {w : World} {h : Nat} {xs : List Int} {tail : List Value} (hb : Buf w h xs tail) : h < w.heap.size := (Array.getElem?_eq_some_iff.1 hb).1
theorem Buf.cell {w : World} {h : Nat} {xs : List Int} {tail : List Value} (hb : Buf w h xs tail) (i : Nat) (hi : i < xs.length) : w.cell? ⟨h, i, none⟩ = some (.int .u8 (xs.getD i 0)) := by
  rw [cell_of_row w h i _ _ _ hb]
  simp [List.getElem?_append, hi, List.getD_eq_getElem?_getD]
theorem Buf.frozen {w : World} {h : Nat} {xs : List Int} {tail : List Value} (hb : Buf w h xs tail) (i : Nat) : w.frozen? ⟨h, i, none⟩ = false := by
  unfold Buf at hb
  simp [World.frozen?, hb]
theorem Buf.set {w : World} {h : Nat} {xs : List Int} {tail : List Value} (hb : Buf w h xs tail) (i : Nat) (hi : i < xs.length) (v : Int) : Buf (w.setCell ⟨h, i, none⟩ (.int .u8 v)) h (xs.set i v) tail := by
  unfold Buf at hb ⊢
  rw [heap_set hb]
  congr 2
  apply Array.ext'
  simp [List.map_set, List.set_append_left, hi]
theorem Buf.grown {w w' : World} {h : Nat} {xs : List Int} {tail : List Value} {r : Option Nat} (hb : Buf w h xs tail) (hg : w.grownBy w' r) (hr : some h ≠ r) : Buf w' h xs tail :=
  (hg.block h hb.lt hr).trans hb
/-- A row of the call's own, as a buffer. -/
theorem Buf.own {w : World} {base g n cap : Nat} {xs : List Int} (h : w.ownsRow base 5 1 (.slice (some ⟨g, 0, none⟩) n cap) n (xs.map (Value.int .u8))) (hn : xs.length = n) : n ≤ cap ∧ cap ≤ maxLen ∧ base ≤ g ∧ ∃ tail, Buf w g xs tail ∧ tail.length = cap - n := by
  rcases h.2 with ⟨h1, _⟩ | ⟨g', cap', cur, h1, hb, hh, hc, hm, hs, ht⟩
  · cases h1
  · injection h1 with h1 h2 h3
    injection h1 with h1
    injection h1 with h1
    subst h1 h3
    refine ⟨hc, hm, hb, cur.toList.drop n, ?_, by simp; omega⟩
    unfold Buf
    rw [hh]
    congr 2
    apply Array.ext'
    rw [Nat.mul_one] at ht
    rw [← ht]
    simp
theorem own_nil (W : World) (base : Nat) (e : TypeId) (size : Nat) : W.ownsRow base e size (.slice none 0 0) 0 [] := ⟨by simp, .inl ⟨rfl, rfl⟩⟩
theorem one_cells (cs : List Int) : ∀ v ∈ cs.map (Value.int .u8), v.oneCell' = true := by
  intro v hv
  obtain ⟨x, _, rfl⟩ := List.mem_map.1 hv
  rfl

end Go.Proofs.Ythfogblmcmlkhaa
