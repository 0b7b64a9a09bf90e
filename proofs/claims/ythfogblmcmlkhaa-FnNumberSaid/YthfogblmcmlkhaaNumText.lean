/-
  The contract of spec.NumberText: a decimal, and perhaps an exponent.
-/
import Derived.Test.YthfogblmcmlkhaaDecText
namespace Go.Proofs.Ythfogblmcmlkhaa
open Go.RowKit
set_option linter.unusedVariables false

theorem Mk.at6 {w : World} {g B : Nat} {a b : Int} (h : Mk w g B a b) : Mk (w.setCell ⟨g, 2, none⟩ (.int .i64 6)) g B 6 b := by
  obtain ⟨A1, A2, n1, c1, n2, c2, xs, ys, at_, by_, f1, f2, hh, hB, r1, r2, h1, h2, h3, h4, h5, h6⟩ := h
  refine ⟨A1, A2, n1, c1, n2, c2, xs, ys, 6, by_, f1, f2, (heap_set hh _).trans rfl, hB, r1.keep fun k hk => ?_, r2.keep fun k hk => ?_, by omega, by omega, h3, h4, by omega, h6⟩
  · exact Below.heap_setCell _ _ _ _ (by show k ≠ g; omega)
  · exact Below.heap_setCell _ _ _ _ (by show k ≠ g; omega)
theorem Mk.cell2 {w : World} {g B : Nat} {a b : Int} (h : Mk w g B a b) : ∃ v, w.cell? ⟨g, 2, none⟩ = some (.int .i64 v) ∧ w.frozen? ⟨g, 2, none⟩ = false := by
  obtain ⟨A1, A2, n1, c1, n2, c2, xs, ys, at_, by_, f1, f2, hh, _⟩ := h
  exact ⟨at_, by rw [cell_of_row w g 2 _ _ _ hh]; rfl, by simp [World.frozen?, hh]⟩
theorem RInts.more {w : World} {B B' : Nat} {A : Option Addr} {n : Nat} {xs : List Int} (h : RInts w B A n xs) (hB : B ≤ B') : RInts w B' A n xs :=
  ⟨h.1, h.2.1, fun hn => by obtain ⟨ad, e, hb, hc⟩ := h.2.2 hn; exact ⟨ad, e, by omega, hc⟩⟩

def esL : List (List Int) := [[101], [69]]
def es : List ByteArray := [⟨#[101]⟩, ⟨#[69]⟩]
def esg : List ByteArray := [⟨#[]⟩, ⟨#[43]⟩, ⟨#[45]⟩]
def esgL : List (List Int) := [[], [43], [45]]
def exs : List ByteArray := [⟨#[48]⟩, ⟨#[49]⟩, ⟨#[50]⟩, ⟨#[48, 53]⟩, ⟨#[49, 48]⟩, ⟨#[57, 57]⟩, ⟨#[51]⟩]
def exsL : List (List Int) := [[48], [49], [50], [48, 53], [49, 48], [57, 57], [51]]
theorem es_list {s : ByteArray} (h : s ∈ es) : ∃ l ∈ esL, s = strOfNums l := by
  simp only [es, List.mem_cons, List.not_mem_nil, or_false] at h
  rcases h with rfl | rfl
  · exact ⟨[101], by simp [esL], rfl⟩
  · exact ⟨[69], by simp [esL], rfl⟩
theorem esg_list {s : ByteArray} (h : s ∈ esg) : ∃ l ∈ esgL, s = strOfNums l := by
  simp only [esg, List.mem_cons, List.not_mem_nil, or_false] at h
  rcases h with rfl | rfl | rfl
  · exact ⟨[], by simp [esgL], rfl⟩
  · exact ⟨[43], by simp [esgL], rfl⟩
  · exact ⟨[45], by simp [esgL], rfl⟩
theorem exs_list {s : ByteArray} (h : s ∈ exs) : ∃ l ∈ exsL, s = strOfNums l := by
  simp only [exs, List.mem_cons, List.not_mem_nil, or_false] at h
  rcases h with rfl | rfl | rfl | rfl | rfl | rfl | rfl
  · exact ⟨[48], by simp [exsL], rfl⟩
  · exact ⟨[49], by simp [exsL], rfl⟩
  · exact ⟨[50], by simp [exsL], rfl⟩
  · exact ⟨[48, 53], by simp [exsL], rfl⟩
  · exact ⟨[49, 48], by simp [exsL], rfl⟩
  · exact ⟨[57, 57], by simp [exsL], rfl⟩
  · exact ⟨[51], by simp [exsL], rfl⟩
theorem len_le {L : List (List Int)} {l : List Int} {k : Nat} (h : l ∈ L) (hk : (L.all fun x => decide (x.length ≤ k)) = true) : l.length ≤ k := by
  simpa using List.all_eq_true.1 hk l h

/-- A decimal, and perhaps an exponent. -/
def NumForm (t : List Int) : Prop := ∃ d x, DecForm d ∧ t = d ++ x ∧ (x = [] ∨ ∃ e ∈ esL, ∃ s ∈ esgL, ∃ n ∈ exsL, x = e ++ s ++ n)
def NumTextPost (g : Nat) (w : World) (e : Ending) (w' : World) : Prop := ∃ t, NumForm t ∧ e = .returned (.string (strOfNums t)) ∧ Below g w w'

set_option maxHeartbeats 3200000 in
theorem NumberText_at (A1 : Option Addr) (n1 c1 g : Nat) (xs : List Int) (w : World) (hgd : w.heap.size = g) (r1 : RInts w g A1 n1 xs) :
    Calls Try.prog 9 #[.slice A1 n1 c1] w (NumTextPost g w) := by
  go_enter Try.func9, Try.ntmps9
  go_wp2_with fail
  have hm0 := Mk.new (w := w) (c1 := c1) (c2 := 0) hgd r1 (RInts.nil w g)
  refine (DecimalText_at A1 n1 c1 (g + 1) xs _ (by simp; exact hgd) ((r1.keep fun k hk => Below.heap_alloc w _ k (by omega)).more (by omega))).mono ?_
  rintro e w1 ⟨d, hd, rfl, hb⟩
  have hm1 : Mk w1 g g 0 0 := hm0.keep (fun k hk => hb.block k (by omega)) (by omega) (by omega) (by omega) (by omega)
  have hb1 : Below g w w1 := ((Below.refl g w).alloc (by omega) _).trans (hb.mono (by omega))
  obtain ⟨v, hc2, hf2⟩ := hm1.cell2
  have hm2 := hm1.at6
  have hb2 : Below g w (w1.setCell ⟨g, 2, none⟩ (.int .i64 6)) := hb1.setCell (p := ⟨g, 2, none⟩) (Nat.le_refl g) _
  have hdl := hd.len
  have hds : (strOfNums d).size ≤ 18 := by rw [strOfNums_size]; exact hdl
  have HD := Lib.hid hd
  have HB2 := Lib.hid hb2
  clear hb hm0 hm1 hb1 hd hb2 r1 hgd
  go_wp2_with fail
  refine (of_any g g 6 0 2 _ (by omega) (by omega) hm2 (by omega)).mono ?_
  rintro e w3 ⟨r, hr0, hr1, rfl, hm3, hg3⟩
  have hb3 : Below g w w3 := HB2.out.grown hg3 (by have := hm2.lt; omega) (by rintro k hk; injection hk with hk; omega)
  have HB3 := Lib.hid hb3
  clear hg3 hb3 hm2 hc2 hf2
  have hcases : r = 0 ∨ r = 1 := by omega
  rcases hcases with rfl | rfl
  · go_wp2_with fail
    refine (word_any g g w3.heap.size 2 _ _ es _ (hm3.alloc _) (by omega) (RStrs.new es rfl rfl) (by have := hm3.lt; omega) (by omega) (by omega)).mono ?_
    rintro e w4 ⟨s, hs, rfl, hm4, hg4⟩
    obtain ⟨l1, hl1, rfl⟩ := es_list hs
    have q1 : (strOfNums l1).size ≤ 1 := by rw [strOfNums_size]; exact len_le hl1 (by decide)
    have hb4 : Below g w w4 := (HB3.out.alloc (by have := hm3.lt; omega) _).grown hg4 (by have := hm3.lt; simp; omega) (by rintro k hk; injection hk with hk; omega)
    have HB4 := Lib.hid hb4
    clear hg4 hb4 hm3 hs
    go_wp2_with fail
    refine (word_any g g w4.heap.size 3 _ _ esg _ (hm4.alloc _) (by omega) (RStrs.new esg rfl rfl) (by have := hm4.lt; omega) (by omega) (by omega)).mono ?_
    rintro e w5 ⟨s, hs, rfl, hm5, hg5⟩
    obtain ⟨l2, hl2, rfl⟩ := esg_list hs
    have q2 : (strOfNums l2).size ≤ 1 := by rw [strOfNums_size]; exact len_le hl2 (by decide)
    have hb5 : Below g w w5 := (HB4.out.alloc (by have := hm4.lt; omega) _).grown hg5 (by have := hm4.lt; simp; omega) (by rintro k hk; injection hk with hk; omega)
    have HB5 := Lib.hid hb5
    clear hg5 hb5 hm4 hs
    go_wp2_with fail
    refine (word_any g g w5.heap.size 7 _ _ exs _ (hm5.alloc _) (by omega) (RStrs.new exs rfl rfl) (by have := hm5.lt; omega) (by omega) (by omega)).mono ?_
    rintro e w6 ⟨s, hs, rfl, hm6, hg6⟩
    obtain ⟨l3, hl3, rfl⟩ := exs_list hs
    have q3 : (strOfNums l3).size ≤ 2 := by rw [strOfNums_size]; exact len_le hl3 (by decide)
    have hb6 : Below g w w6 := (HB5.out.alloc (by have := hm5.lt; omega) _).grown hg6 (by have := hm5.lt; simp; omega) (by rintro k hk; injection hk with hk; omega)
    have HB6 := Lib.hid hb6
    clear hg6 hb6 hm5 hs
    go_wp2_with fail
    go_ret
    exact ⟨d ++ (l1 ++ l2 ++ l3), ⟨d, _, HD.out, rfl, .inr ⟨l1, hl1, l2, hl2, l3, hl3, rfl⟩⟩, by rw [strOfNums_append, strOfNums_append, strOfNums_append]; rfl, HB6.out⟩
  · go_wp2_with fail
    go_ret
    exact ⟨d, ⟨d, [], HD.out, by simp, .inl rfl⟩, rfl, HB3.out⟩

end Go.Proofs.Ythfogblmcmlkhaa
