/-
  Bytes in a block, copied within it.
-/
import Derived.Test.YthfogblmcmlkhaaNumInt
import Derived.Laws.CopyOwn
import Derived.Deep.RegionLaw
namespace Go.Proofs.Ythfogblmcmlkhaa
open Go.RowKit
set_option linter.unusedVariables false

theorem size_u8 : (Try.prog.info? 5).map (·.size) = some 1 := by kernel_rfl
def cut (b : List Int) (s e : Nat) : List Int := (b.take e).drop s
theorem cut_length (b : List Int) (s e : Nat) (h1 : s ≤ e) (h2 : e ≤ b.length) : (cut b s e).length = e - s := by
  unfold cut; simp; omega
theorem cut_get (b : List Int) (s e i : Nat) (h2 : e ≤ b.length) : (cut b s e)[i]? = if s + i < e then b[s + i]? else none := by
  unfold cut
  rw [List.getElem?_drop, List.getElem?_take]
theorem splice_get (L cs : List Int) (o i : Nat) (h : o + cs.length ≤ L.length) : (Go.splice L o cs)[i]? = if o ≤ i ∧ i < o + cs.length then cs[i - o]? else L[i]? := by
  unfold Go.splice
  by_cases h1 : i < o
  · rw [if_neg (by omega), List.getElem?_append_left (by simp; omega), List.getElem?_take, if_pos h1]
  · rw [List.getElem?_append_right (by simp; omega)]
    simp only [List.length_take]
    rw [show min o L.length = o from by omega]
    by_cases h2 : i < o + cs.length
    · rw [if_pos (by omega), List.getElem?_append_left (by omega)]
    · rw [if_neg (by omega), List.getElem?_append_right (by omega), List.getElem?_drop]
      congr 1
      omega
/-- xs with n bytes from place s on laid to place o. -/
def moved (xs : List Int) (o s n : Nat) : List Int := Go.splice xs o (cut xs s (s + n))
theorem moved_length {xs : List Int} {o s n : Nat} (h1 : s + n ≤ xs.length) (h2 : o + n ≤ xs.length) : (moved xs o s n).length = xs.length := by
  have hc := cut_length xs s (s + n) (by omega) h1
  exact length_splice _ _ _ (by rw [hc]; omega)
theorem moved_get {xs : List Int} {o s n : Nat} (h1 : s + n ≤ xs.length) (h2 : o + n ≤ xs.length) (k : Nat) : (moved xs o s n).getD k 0 = if o ≤ k ∧ k < o + n then xs.getD (s + (k - o)) 0 else xs.getD k 0 := by
  have hc := cut_length xs s (s + n) (by omega) h1
  have e1 : s + n - s = n := by omega
  rw [e1] at hc
  unfold moved
  rw [List.getD_eq_getElem?_getD, splice_get _ _ _ _ (by rw [hc]; omega), hc]
  split
  · rw [cut_get _ _ _ _ h1, if_pos (by omega), List.getD_eq_getElem?_getD]
  · rw [List.getD_eq_getElem?_getD]
theorem set_get {xs : List Int} {i : Nat} (h : i < xs.length) (v : Int) (k : Nat) : (xs.set i v).getD k 0 = if k = i then v else xs.getD k 0 := by
  rw [List.getD_eq_getElem?_getD, List.getElem?_set]
  by_cases e : k = i
  · subst e
    rw [if_pos rfl, if_pos rfl, if_pos h]; rfl
  · rw [if_neg (fun h => e h.symm), if_neg e, List.getD_eq_getElem?_getD]
theorem Buf.src {w : World} {h : Nat} {xs : List Int} {tail : List Value} (hb : Buf w h xs tail) (s n : Nat) (hs : s + n ≤ xs.length) : ∀ j v, ((cut xs s (s + n)).map (Value.int .u8))[j]? = some v → w.cell? ((⟨h, s, none⟩ : Addr).add j) = some v := by
  intro j v hv
  rw [List.getElem?_map, cut_get _ _ _ _ hs] at hv
  split at hv
  · rename_i hj
    have ha : (⟨h, s, none⟩ : Addr).add j = ⟨h, s + j, none⟩ := by unfold Addr.add; split <;> simp_all
    rw [ha, hb.cell (s + j) (by omega), List.getD_eq_getElem?_getD]
    rw [List.getElem?_eq_getElem (by omega)] at hv ⊢
    simpa using hv
  · cases hv
theorem Buf.splice {w' : World} {h o : Nat} {xs cs : List Int} {tail : List Value} (hfit : o + cs.length ≤ xs.length) (hh : w'.heap[h]? = some (.cells (Go.splice (xs.map (Value.int .u8) ++ tail) o (cs.map (Value.int .u8))).toArray 5 (0, 0))) : Buf w' h (Go.splice xs o cs) tail := by
  unfold Buf
  rw [hh]
  congr 3
  unfold Go.splice
  rw [List.take_append_of_le_length (by simp; omega), List.length_map, List.drop_append_of_le_length (by simp; omega)]
  simp
theorem Buf.moved {w' : World} {h o s n : Nat} {xs : List Int} {tail : List Value} (h1 : s + n ≤ xs.length) (h2 : o + n ≤ xs.length) (hh : w'.heap[h]? = some (.cells (Go.splice (xs.map (Value.int .u8) ++ tail) o ((cut xs s (s + n)).map (Value.int .u8))).toArray 5 (0, 0))) : Buf w' h (moved xs o s n) tail :=
  Buf.splice (by rw [cut_length _ _ _ (by omega) h1]; omega) hh

end Go.Proofs.Ythfogblmcmlkhaa
