/-
  The contract of (*spec.maker).how.
-/
import Derived.Test.YthfogblmcmlkhaaDoorPick
namespace Go.Proofs.YthfogblmcmlkhaaDoor
open Go.RowKit

set_option maxHeartbeats 1600000 in
theorem how_any (g B : Nat) (a b N : Int) (w : World) (hN : 1 ≤ N) (hN2 : N ≤ 1000000) (h : Mk w g B a b) (hb : b ≤ 999999999999) :
    Calls Tryd.prog 14 #[.pointer (some ⟨g, 0, none⟩), .int .i64 N] w (OfPost g B a (b + 1) N w) := by
  obtain ⟨A1, A2, n1, c1, n2, c2, xs, ys, at_, by_, f1, f2, hh, hB, r1, r2, h1, h2, h3, h4, h5, h6⟩ := h
  have k0 : w.cell? ⟨g, 1, none⟩ = some (.slice A2 n2 c2) := by rw [cell_of_row w g 1 _ _ _ hh]; rfl
  have k2 : w.cell? ⟨g, 3, none⟩ = some (.int .i64 by_) := by rw [cell_of_row w g 3 _ _ _ hh]; rfl
  have f2' : w.frozen? ⟨g, 3, none⟩ = false := by simp [World.frozen?, hh]
  have HH := Lib.hid hh
  clear hh
  go_enter Tryd.func14, Tryd.ntmps14
  go_wp2
  go_region_held3 (fun w' => w'.cell? ⟨g, 1, none⟩ = some (.slice A2 n2 c2)) (go_keep)
    ((go_at_call 13; refine (pick_any A2 n2 c2 g 3 B ys N _ by_ hN hN2 h3 (by omega) (by exact r2) (by exact k2) (by exact f2')).mono ?_; rintro e w' ⟨r, hr0, hr1, rfl, hw⟩; have k0' : w'.cell? ⟨g, 1, none⟩ = some (.slice A2 n2 c2) := (by rcases hw with rfl | rfl <;> first | exact k0 | exact (cell_set_other g 3 1 _ (by omega)).trans k0)))
  go_wp2
  go_ret
  have hg : w.grownBy w' (some g) := by
    rcases hw with rfl | rfl
    · exact ⟨rfl, rfl, rfl, Nat.le_refl _, fun _ _ _ => rfl⟩
    · exact grownBy_drew (grownBy_set w.drew g 3 _)
  refine ⟨r, hr0, hr1, rfl, ?_, hg⟩
  rcases hw with rfl | rfl
  · exact ⟨A1, A2, n1, c1, n2, c2, xs, ys, at_, by_, f1, f2, HH.out, hB, r1, r2, h1, by omega, h3, by omega, by omega, by omega⟩
  · refine ⟨A1, A2, n1, c1, n2, c2, xs, ys, at_, by_ + 1, f1, f2, (heap_set (w := w.drew) HH.out _).trans rfl, hB, r1.keep fun k hk => ?_, r2.keep fun k hk => ?_, h1, by omega, by omega, by omega, by omega, by omega⟩
    · exact Below.heap_setCell _ _ _ _ (by show k ≠ g; omega)
    · exact Below.heap_setCell _ _ _ _ (by show k ≠ g; omega)

end Go.Proofs.YthfogblmcmlkhaaDoor
