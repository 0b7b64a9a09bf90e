/-
  Bytes in a block (Buf), and the contract of parse.ToLower: it makes a range of them small letters.
-/
import Derived.Test.YthfogblmcmlkhaaDoorWord
namespace Go.Proofs.YthfogblmcmlkhaaDoor
open Go.RowKit

/-- Block h holds the bytes xs, and tail behind them. -/
def Buf (w : World) (h : Nat) (xs : List Int) (tail : List Value) : Prop :=
  w.heap[h]? = some (.cells (xs.map (Value.int .u8) ++ tail).toArray 5 (0, 0))
theorem Buf.lt {w : World} {h : Nat} {xs : List Int} {tail : List Value} (hb : Buf w h xs tail) : h < w.heap.size := (Array.getElem?_eq_some_iff.1 hb).1
theorem Buf.cell {w : World} {h : Nat} {xs : List Int} {tail : List Value} (hb : Buf w h xs tail) (i : Nat) (hi : i < xs.length) : w.cell? ⟨h, i, none⟩ = some (.int .u8 (xs.getD i 0)) := by
  rw [cell_of_row w h i _ _ _ hb]
  simp [List.getElem?_append, hi, List.getD_eq_getElem?_getD]
theorem Buf.frozen {w : World} {h : Nat} {xs : List Int} {tail : List Value} (hb : Buf w h xs tail) (i : Nat) : w.frozen? ⟨h, i, none⟩ = false := by
  unfold Buf at hb
  simp [World.frozen?, hb]
theorem Buf.set {w : World} {h : Nat} {xs : List Int} {tail : List Value} (hb : Buf w h xs tail) (i : Nat) (hi : i < xs.length) (v : Int) : Buf (w.setCell ⟨h, i, none⟩ (.int .u8 v)) h (xs.set i v) tail := by
  unfold Buf at hb ⊢
  rw [heap_set hb]
  congr 2
  apply Array.ext'
  simp [List.map_set, List.set_append_left, hi]
theorem Buf.grown {w w' : World} {h : Nat} {xs : List Int} {tail : List Value} {r : Option Nat} (hb : Buf w h xs tail) (hg : w.grownBy w' r) (hr : some h ≠ r) : Buf w' h xs tail :=
  (hg.block h hb.lt hr).trans hb
theorem Buf.of {w w' : World} {h : Nat} {xs : List Int} {tail : List Value} (hb : Buf w h xs tail) (hg : w'.heap = w.heap) : Buf w' h xs tail := by
  unfold Buf at hb ⊢; rw [hg]; exact hb

def low (x : Int) : Int := if 65 ≤ x ∧ x ≤ 90 then x + 32 else x
/-- The bytes from o up to e (not with it) as small letters. -/
def lowR (o e : Nat) : List Int → List Int := fun xs => xs.take o ++ ((xs.take e).drop o).map low ++ xs.drop (max o e)
theorem lowR_same (o : Nat) (xs : List Int) : lowR o o xs = xs := by
  unfold lowR
  rw [List.drop_take]
  simp
theorem lowR_length (o e : Nat) (xs : List Int) : (lowR o e xs).length = xs.length := by
  unfold lowR
  simp
  omega
theorem lowR_get (o e i : Nat) (xs : List Int) : (lowR o e xs)[i]? = if o ≤ i ∧ i < e then xs[i]?.map low else xs[i]? := by
  unfold lowR
  by_cases h1 : i < o
  · rw [if_neg (by omega)]
    by_cases h2 : i < xs.length
    · rw [List.append_assoc, List.getElem?_append_left (by simp; omega), List.getElem?_take, if_pos h1]
    · rw [List.getElem?_eq_none (by simp; omega), List.getElem?_eq_none (by omega)]
  · by_cases h2 : i < e
    · rw [if_pos (by omega)]
      by_cases h3 : i < xs.length
      · rw [List.getElem?_append_left (by simp; omega), List.getElem?_append_right (by simp; omega)]
        simp only [List.length_take, List.getElem?_map, List.getElem?_drop, List.getElem?_take]
        rw [show o + (i - min o xs.length) = i from by omega, if_pos h2]
      · rw [List.getElem?_eq_none (by simp; omega), List.getElem?_eq_none (by omega)]
        rfl
    · rw [if_neg (by omega)]
      by_cases h3 : i < xs.length
      · rw [List.getElem?_append_right (by simp; omega), List.getElem?_drop]
        simp only [List.length_append, List.length_take, List.length_map, List.length_drop]
        congr 1
        omega
      · rw [List.getElem?_eq_none (by simp; omega), List.getElem?_eq_none (by omega)]
theorem lowR_step (o k : Nat) (xs : List Int) (hk : o + k < xs.length) : lowR o (o + (k + 1)) xs = (lowR o (o + k) xs).set (o + k) (low (xs.getD (o + k) 0)) := by
  apply List.ext_getElem?
  intro i
  rw [lowR_get, List.getElem?_set, lowR_length, lowR_get]
  by_cases h1 : o + k = i
  · subst h1
    rw [if_pos (by omega), if_pos rfl, if_pos hk]
    simp [List.getElem?_eq_getElem hk, List.getD_eq_getElem?_getD]
  · rw [if_neg h1]
    by_cases h2 : o ≤ i ∧ i < o + k
    · rw [if_pos (by omega), if_pos h2]
    · rw [if_neg (by omega), if_neg h2]

theorem set_self (xs : List Int) (i : Nat) (x : Int) (hi : i < xs.length) (h : xs.getD i 0 = x) : xs.set i x = xs := by
  apply List.ext_getElem?
  intro j
  rw [List.getElem?_set]
  by_cases e : i = j
  · subst e
    rw [if_pos rfl, if_pos hi, ← h, List.getD_eq_getElem?_getD, List.getElem?_eq_getElem hi]
    rfl
  · rw [if_neg e]

def LowPost (A : Option Addr) (o m c h : Nat) (xs : List Int) (tail : List Value) (w : World) (e : Ending) (w' : World) : Prop :=
  e = .returned (.slice A m c) ∧ Buf w' h (lowR o (o + m) xs) tail ∧ w.grownBy w' (some h)

set_option maxHeartbeats 1600000 in
theorem ToLower_some (o m c h : Nat) (xs : List Int) (tail : List Value) (w : World) (hb : Buf w h xs tail) (hm : o + m ≤ xs.length) (hx : ∀ i, 0 ≤ xs.getD i 0 ∧ xs.getD i 0 ≤ 255) (hmax : m ≤ 4611686018427387904) :
    Calls Tryd.prog 17 #[.slice (some ⟨h, o, none⟩) m c] w (LowPost (some ⟨h, o, none⟩) o m c h xs tail w) := by
  go_enter Tryd.func17, Tryd.ntmps17
  go_wp2_with fail
  go_loopw [7] (fun v7 wr => ∃ k : Nat, k ≤ m ∧ v7 = .int .i64 k ∧ Buf wr h (lowR o (o + k) xs) tail ∧ w.grownBy wr (some h)) (fun v7 _ => m - (intOf v7).toNat)
  case atStart => exact ⟨0, by omega, rfl, by rw [show o + 0 = o from rfl, lowR_same]; exact hb, grownBy_refl' w _⟩
  case round =>
    clear hb
    obtain ⟨k, hk, rfl, hb, hg⟩ := hrel
    by_cases hlt : k < m
    · have hbl : o + k < (lowR o (o + k) xs).length := by rw [lowR_length]; omega
      have hcell := hb.cell (o + k) hbl
      have hfr := hb.frozen (o + k)
      have hxe : (lowR o (o + k) xs).getD (o + k) 0 = xs.getD (o + k) 0 := by rw [List.getD_eq_getElem?_getD, List.getD_eq_getElem?_getD, lowR_get, if_neg (by omega)]
      rw [hxe] at hcell
      have hr := hx (o + k)
      have hst := lowR_step o k xs (by omega)
      obtain ⟨x, hxd⟩ : ∃ x, xs.getD (o + k) 0 = x := ⟨_, rfl⟩
      rw [hxd] at hcell hr hst
      have hself : (lowR o (o + k) xs).set (o + k) x = lowR o (o + k) xs := set_self _ _ _ hbl (hxe.trans hxd)
      have HS := Lib.hid hself
      clear hself
      have HST := Lib.hid hst
      have HB := Lib.hid hb
      have HG := Lib.hid hg
      clear hst hxd hxe hx hb hg
      by_cases hc : 65 ≤ x ∧ x ≤ 90
      · obtain ⟨c1, c2⟩ := hc
        go_wp2
        go_roundw
        case rel =>
          refine ⟨k + 1, by omega, by go_num, ?_, grownBy_trans HG.out (grownBy_set _ _ _ _)⟩
          rw [HST.out, show low x = x + 32 from if_pos ⟨c1, c2⟩]
          exact HB.out.set (o + k) hbl _
        case measure => simp [intOf]; omega
      · by_cases c1 : 65 ≤ x
        · have c2 : ¬ x ≤ 90 := by omega
          go_wp2
          go_roundw
          case rel =>
            refine ⟨k + 1, by omega, by go_num, ?_, HG.out⟩
            rw [HST.out, show low x = x from if_neg hc]
            rw [HS.out]
            exact HB.out
          case measure => simp [intOf]; omega
        · go_wp2
          go_roundw
          case rel =>
            refine ⟨k + 1, by omega, by go_num, ?_, HG.out⟩
            rw [HST.out, show low x = x from if_neg hc]
            rw [HS.out]
            exact HB.out
          case measure => simp [intOf]; omega
    · have : k = m := by omega
      subst this
      go_wp2
      go_ret
      exact ⟨rfl, hb, hg⟩

set_option maxHeartbeats 800000 in
theorem ToLower_none (A : Option Addr) (o c h : Nat) (xs : List Int) (tail : List Value) (w : World) (hb : Buf w h xs tail) :
    Calls Tryd.prog 17 #[.slice A 0 c] w (LowPost A o 0 c h xs tail w) := by
  go_enter Tryd.func17, Tryd.ntmps17
  go_wp2_with fail
  go_loopw [7] (fun v7 wr => v7 = .int .i64 0 ∧ w = wr) (fun _ _ => 0)
  case atStart => exact ⟨rfl, rfl⟩
  case round =>
    obtain ⟨rfl, rfl⟩ := hrel
    go_wp2
    go_ret
    exact ⟨rfl, by rw [show o + 0 = o from rfl, lowR_same]; exact hb, grownBy_refl' w _⟩

/-- A slice of the buffer, from o on, of m bytes (where m is 0: wherever it points). -/
def At (A : Option Addr) (h o m : Nat) : Prop := 0 < m → A = some ⟨h, o, none⟩
theorem ToLower_any (A : Option Addr) (o m c h : Nat) (xs : List Int) (tail : List Value) (w : World) (hA : At A h o m) (hb : Buf w h xs tail) (hm : o + m ≤ xs.length) (hx : ∀ i, 0 ≤ xs.getD i 0 ∧ xs.getD i 0 ≤ 255) (hmax : m ≤ 4611686018427387904) :
    Calls Tryd.prog 17 #[.slice A m c] w (LowPost A o m c h xs tail w) := by
  rcases Nat.eq_zero_or_pos m with h0 | h0
  · subst h0
    exact ToLower_none A o c h xs tail w hb
  · rw [hA h0]
    exact ToLower_some o m c h xs tail w hb hm hx hmax

end Go.Proofs.YthfogblmcmlkhaaDoor
