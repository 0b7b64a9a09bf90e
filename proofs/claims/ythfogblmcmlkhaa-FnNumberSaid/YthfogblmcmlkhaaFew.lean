/-
  The contract of laws.few: the first numbers of a slice.
-/
import Derived.Test.YthfogblmcmlkhaaWord
namespace Go.Proofs.Ythfogblmcmlkhaa
open Go.RowKit

theorem RInts.take {w : World} {B : Nat} {A : Option Addr} {n : Nat} {xs : List Int} (h : RInts w B A n xs) (m : Nat) (hm : m ≤ n) : RInts w B A m (xs.take m) := by
  obtain ⟨h1, h2, h3⟩ := h
  refine ⟨by rw [List.length_take]; omega, by omega, fun hp => ?_⟩
  obtain ⟨ad, e, hb, hc⟩ := h3 (by omega)
  refine ⟨ad, e, hb, fun j hj => ?_⟩
  rw [hc j (by omega), List.getD_eq_getElem?_getD, List.getD_eq_getElem?_getD, List.getElem?_take, if_pos hj]

theorem few_any (A : Option Addr) (n c : Nat) (xs : List Int) (w : World) (hr : RInts w w.heap.size A n xs) (hc : n ≤ c) (hc2 : c ≤ 9223372036854775807) :
    Calls Try.prog 6 #[.slice A n c] w fun e w' => e = .returned (.slice A (min n 300) c) ∧ w = w' := by
  have hn := hr.2.1
  clear hr
  by_cases h : n ≤ 300
  · have e : min n 300 = n := by omega
    rw [e]
    clear e
    have h' : ¬ 300 < n := by omega
    go_enter Try.func6, Try.ntmps6
    go_wp2
    go_ret
    exact ⟨rfl, rfl⟩
  · have e : min n 300 = 300 := by omega
    rw [e]
    clear e
    go_enter Try.func6, Try.ntmps6
    go_wp2
    go_ret
    exact ⟨rfl, rfl⟩

end Go.Proofs.Ythfogblmcmlkhaa
