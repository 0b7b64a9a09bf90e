/-
  Contracts of (*spec.maker).gap and spec.MediaText: the texts that they make.
-/
import Derived.Test.YthfogblmcmlkhaaDoorWord
import Derived.Test.YthfogblmcmlkhaaDoorHow
namespace Go.Proofs.YthfogblmcmlkhaaDoor
open Go.RowKit

set_option maxHeartbeats 1600000 in
theorem gap_any (g B : Nat) (a b : Int) (w : World) (hm : Mk w g B a b) (hb : b ≤ 999999999999) :
    Calls Tryd.prog 10 #[.pointer (some ⟨g, 0, none⟩)] w (WordPost [⟨#[]⟩, ⟨#[32]⟩, ⟨#[32, 32]⟩] g B a (b + 1) w) := by
  have hm1 := hm.alloc (.cells #[.string ⟨#[]⟩, .string ⟨#[32]⟩, .string ⟨#[32, 32]⟩] 9)
  have hlt := hm.lt
  go_enter Tryd.func10, Tryd.ntmps10
  go_wp2_with fail
  refine (how_any g B a b 3 _ (by omega) (by omega) hm1 hb).mono ?_
  rintro e w' ⟨r, hr0, hr1, rfl, hm', hg⟩
  have hh' : w'.heap[w.heap.size]? = some (.cells #[.string ⟨#[]⟩, .string ⟨#[32]⟩, .string ⟨#[32, 32]⟩] 9 (0, 0)) :=
    (hg.block w.heap.size (by simp) (by simp; omega)).trans (heap_alloc_new w _)
  have hg' : w.grownBy w' (some g) := grownBy_trans (World.grownBy_alloc w _ _) hg
  clear hm1
  have hcases : r = 0 ∨ r = 1 ∨ r = 2 := by omega
  rcases hcases with rfl | rfl | rfl
  · have hcell : w'.cell? ⟨w.heap.size, 0, none⟩ = some (.string ⟨#[]⟩) := by rw [cell_of_row w' _ _ _ _ _ hh']; rfl
    clear hh'
    go_wp2
    go_ret
    exact ⟨⟨#[]⟩, by simp, rfl, hm', hg'⟩
  · have hcell : w'.cell? ⟨w.heap.size, 1, none⟩ = some (.string ⟨#[32]⟩) := by rw [cell_of_row w' _ _ _ _ _ hh']; rfl
    clear hh'
    go_wp2
    go_ret
    exact ⟨⟨#[32]⟩, by simp, rfl, hm', hg'⟩
  · have hcell : w'.cell? ⟨w.heap.size, 2, none⟩ = some (.string ⟨#[32, 32]⟩) := by rw [cell_of_row w' _ _ _ _ _ hh']; rfl
    clear hh'
    go_wp2
    go_ret
    exact ⟨⟨#[32, 32]⟩, by simp, rfl, hm', hg'⟩

def bs (s : String) : ByteArray := s.toUTF8
/-- One of the first words; one parameter with what stands ahead of it. -/
def heads : List ByteArray := [⟨#[116, 101, 120, 116, 47, 104, 116, 109, 108]⟩, ⟨#[84, 69, 88, 84, 47, 80, 108, 97, 105, 110]⟩, ⟨#[105, 109, 97, 103, 101, 47, 115, 118, 103, 43, 120, 109, 108]⟩, ⟨#[97, 112, 112, 108, 105, 99, 97, 116, 105, 111, 110, 47, 106, 115, 111, 110]⟩]
def gaps : List ByteArray := [⟨#[]⟩, ⟨#[32]⟩, ⟨#[32, 32]⟩]
def keys : List ByteArray := [⟨#[99, 104, 97, 114, 115, 101, 116]⟩, ⟨#[67, 104, 97, 114, 115, 101, 116]⟩, ⟨#[113]⟩, ⟨#[118]⟩]
def vals : List ByteArray := [⟨#[117, 116, 102, 45, 56]⟩, ⟨#[85, 84, 70, 45, 56]⟩, ⟨#[49]⟩, ⟨#[34, 65, 32, 98, 59, 32, 99, 34]⟩, ⟨#[120]⟩]
def Param (s : ByteArray) : Prop := ∃ a ∈ gaps, ∃ b ∈ gaps, ∃ k ∈ keys, ∃ v ∈ vals, s = a ++ ⟨#[59]⟩ ++ b ++ k ++ ⟨#[61]⟩ ++ v
/-- A first word and n parameters. -/
def MediaIs : Nat → ByteArray → Prop
  | 0, s => s ∈ heads
  | n + 1, s => ∃ t p, MediaIs n t ∧ Param p ∧ s = t ++ p
def MediaPost (B : Nat) (w : World) (e : Ending) (w' : World) : Prop := ∃ (n : Nat) (s : ByteArray), n ≤ 2 ∧ MediaIs n s ∧ e = .returned (.string s) ∧ Below B w w'

theorem gaps_size {a : ByteArray} (h : a ∈ gaps) : a.size ≤ 2 := by
  simp only [gaps, List.mem_cons, List.not_mem_nil, or_false] at h
  rcases h with rfl | rfl | rfl <;> simp [ByteArray.size]
theorem keys_size {a : ByteArray} (h : a ∈ keys) : a.size ≤ 7 := by
  simp only [keys, List.mem_cons, List.not_mem_nil, or_false] at h
  rcases h with rfl | rfl | rfl | rfl <;> simp [ByteArray.size]
theorem vals_size {a : ByteArray} (h : a ∈ vals) : a.size ≤ 8 := by
  simp only [vals, List.mem_cons, List.not_mem_nil, or_false] at h
  rcases h with rfl | rfl | rfl | rfl | rfl <;> simp [ByteArray.size]
theorem heads_size {a : ByteArray} (h : a ∈ heads) : a.size ≤ 16 := by
  simp only [heads, List.mem_cons, List.not_mem_nil, or_false] at h
  rcases h with rfl | rfl | rfl | rfl <;> simp [ByteArray.size]
theorem one_size (c : UInt8) : (⟨#[c]⟩ : ByteArray).size = 1 := rfl
theorem Param.size {p : ByteArray} (h : Param p) : p.size ≤ 21 := by
  obtain ⟨a, ha, b, hb, k, hk, v, hv, rfl⟩ := h
  have := gaps_size ha; have := gaps_size hb; have := keys_size hk; have := vals_size hv
  simp only [ByteArray.size_append, one_size]
  omega
theorem MediaIs.size : ∀ {n : Nat} {s : ByteArray}, MediaIs n s → s.size ≤ 16 + 21 * n
  | 0, _, h => heads_size h
  | n + 1, _, ⟨t, p, ht, hp, e⟩ => by
    have h1 := MediaIs.size ht
    have h2 := hp.size
    rw [e, ByteArray.size_append]
    omega

set_option maxHeartbeats 800000 in
theorem MediaText_at (A1 A2 : Option Addr) (n1 c1 n2 c2 g : Nat) (xs ys : List Int) (w : World) (hgd : w.heap.size = g) (r1 : RInts w g A1 n1 xs) (r2 : RInts w g A2 n2 ys) :
    Calls Tryd.prog 4 #[.slice A1 n1 c1, .slice A2 n2 c2] w (MediaPost g w) := by
  go_enter Tryd.func4, Tryd.ntmps4
  go_wp2_with fail
  refine (word_any g g (g + 1) 4 0 0 heads _ ((Mk.new hgd r1 r2).alloc _) (by omega) (RStrs.new heads (by simp; exact hgd) rfl) (by omega) (by omega) (by omega)).mono ?_
  rintro e w1 ⟨s, hs, rfl, hm, hg⟩
  have hb1 : Below g w w1 := (((Below.refl _ _).alloc (by omega) _).alloc (by simp; omega) _).grown hg (by simp; omega) (by rintro k hk; injection hk with hk; omega)
  clear hg hgd r1 r2
  go_wp2_with fail
  refine (of_any g g 1 0 3 _ (by omega) (by omega) hm (by omega)).mono ?_
  rintro e w2 ⟨r, hr0, hr1, rfl, hm2, hg2⟩
  have hb2 : Below g w w2 := hb1.grown hg2 (by have := hm.lt; omega) (by rintro k hk; injection hk with hk; omega)
  clear hm hb1 hg2
  go_wp2_with fail
  go_loopw [6, 16] (fun v6 v16 wr => ∃ (k : Nat) (s : ByteArray), (k : Int) ≤ r ∧ v16 = .int .i64 k ∧ v6 = .string s ∧ MediaIs k s ∧ Mk wr g g (2 + 2 * k) (2 * k) ∧ Below g w wr) (fun _ v16 _ => (r - intOf v16).toNat)
  case atStart => exact ⟨0, s, by omega, rfl, rfl, hs, hm2.at_most (by omega) (by omega) (by omega) (by omega), hb2⟩
  case round =>
    clear hm2 hb2 hs
    obtain ⟨k, s, hk, rfl, rfl, hs, hm, hb⟩ := hrel
    have hsz := MediaIs.size hs
    by_cases hlt : (k : Int) < r
    · have hk2 : k ≤ 1 := by omega
      go_wp2_with fail
      refine (gap_any g g _ _ _ hm (by omega)).mono ?_
      rintro e w1 ⟨a, ha, rfl, hm1, hg1⟩
      have sa := gaps_size ha
      have hb1 : Below g w w1 := hb.grown hg1 (by have := hm.lt; omega) (by rintro k hk; injection hk with hk; omega)
      clear hm hb hg1
      go_wp2_with fail
      refine (gap_any g g _ _ _ hm1 (by omega)).mono ?_
      rintro e w2 ⟨b, hbb, rfl, hm2, hg2⟩
      have sb := gaps_size hbb
      have hb2 : Below g w w2 := hb1.grown hg2 (by have := hm1.lt; omega) (by rintro k hk; injection hk with hk; omega)
      clear hm1 hb1 hg2
      go_wp2_with fail
      refine (word_any g g w2.heap.size 4 _ _ keys _ (hm2.alloc _) (by omega) (RStrs.new keys rfl rfl) (by have := hm2.lt; omega) (by omega) (by omega)).mono ?_
      rintro e w3 ⟨c, hc, rfl, hm3, hg3⟩
      have sc := keys_size hc
      have hb3 : Below g w w3 := (hb2.alloc (by have := hm2.lt; omega) _).grown hg3 (by have := hm2.lt; simp; omega) (by rintro k hk; injection hk with hk; omega)
      clear hm2 hb2 hg3
      go_wp2_with fail
      refine (word_any g g w3.heap.size 5 _ _ vals _ (hm3.alloc _) (by omega) (RStrs.new vals rfl rfl) (by have := hm3.lt; omega) (by omega) (by omega)).mono ?_
      rintro e w4 ⟨d, hd, rfl, hm4, hg4⟩
      have sd := vals_size hd
      have hb4 : Below g w w4 := (hb3.alloc (by have := hm3.lt; omega) _).grown hg4 (by have := hm3.lt; simp; omega) (by rintro k hk; injection hk with hk; omega)
      clear hm3 hb3 hg4
      go_wp2_with fail
      go_roundw
      case rel => exact ⟨k + 1, _, by omega, by go_num, rfl, ⟨s, _, hs, ⟨a, ha, b, hbb, c, hc, d, hd, rfl⟩, rfl⟩, hm4.at_most (by omega) (by omega) (by omega) (by omega), hb4⟩
      case measure => simp [intOf]; omega
    · go_wp2_with fail
      go_ret
      exact ⟨k, s, by omega, hs, rfl, hb⟩

end Go.Proofs.YthfogblmcmlkhaaDoor
