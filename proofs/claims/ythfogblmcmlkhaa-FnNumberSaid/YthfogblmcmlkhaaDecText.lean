/-
  The contracts of spec.DecimalText and its closure: a sign, or none, and digits with a point, or none.
-/
import Derived.Test.YthfogblmcmlkhaaWord
import Derived.Laws.BytesArg
import Derived.Deep.DeepCutAuto
import Derived.Deep.RegionHeld3
import Derived.Deep.DrawnRows
import Derived.IntWalk
namespace Go.Proofs.Ythfogblmcmlkhaa
open Go.RowKit
set_option linter.unusedVariables false

def dig (d : Int) : Prop := 48 ≤ d ∧ d ≤ 57
def Digits (n : Nat) (ds : List Int) : Prop := ds.length = n ∧ ∀ d ∈ ds, dig d
def digWords : List ByteArray := [⟨#[48]⟩, ⟨#[48]⟩, ⟨#[49]⟩, ⟨#[50]⟩, ⟨#[53]⟩, ⟨#[57]⟩, ⟨#[48]⟩, ⟨#[55]⟩]
theorem digWords_one {s : ByteArray} (h : s ∈ digWords) : ∃ d, dig d ∧ s = strOfNums [d] := by
  simp only [digWords, List.mem_cons, List.not_mem_nil, or_false] at h
  rcases h with rfl | rfl | rfl | rfl | rfl | rfl | rfl | rfl
  · exact ⟨48, by unfold dig; omega, rfl⟩
  · exact ⟨48, by unfold dig; omega, rfl⟩
  · exact ⟨49, by unfold dig; omega, rfl⟩
  · exact ⟨50, by unfold dig; omega, rfl⟩
  · exact ⟨53, by unfold dig; omega, rfl⟩
  · exact ⟨57, by unfold dig; omega, rfl⟩
  · exact ⟨48, by unfold dig; omega, rfl⟩
  · exact ⟨55, by unfold dig; omega, rfl⟩
theorem strOfNums_append (xs ys : List Int) : strOfNums (xs ++ ys) = strOfNums xs ++ strOfNums ys := by
  unfold strOfNums
  apply ByteArray.ext
  apply Array.ext'
  rw [ByteArray.data_append, Array.toList_append]
  simp

def DigPost (n : Nat) (g B : Nat) (a b : Int) (w : World) (e : Ending) (w' : World) : Prop :=
  ∃ ds, Digits n ds ∧ e = .returned (.string (strOfNums ds)) ∧ Mk w' g B a b ∧ w.grownBy w' (some g)

/-- A variable that holds the maker's place. -/
def Ref (w : World) (v g : Nat) : Prop := w.heap[v]? = some (.cells #[.pointer (some ⟨g, 0, none⟩)] 28 (0, 0))
theorem Ref.cell {w : World} {v g : Nat} (h : Ref w v g) : w.cell? ⟨v, 0, none⟩ = some (.pointer (some ⟨g, 0, none⟩)) := by rw [cell_of_row w v 0 _ _ _ h]; rfl
theorem Ref.lt {w : World} {v g : Nat} (h : Ref w v g) : v < w.heap.size := (Array.getElem?_eq_some_iff.1 h).1
theorem Ref.grown {w w' : World} {v g : Nat} (h : Ref w v g) (hg : w.grownBy w' (some g)) (hne : v ≠ g) : Ref w' v g := (hg.block v h.lt (by simpa using hne)).trans h

set_option maxHeartbeats 1600000 in
theorem digits_any (n g B v : Nat) (a b : Int) (w : World) (hm : Mk w g B a b) (hv : Ref w v g) (hne : v ≠ g) (hn : n ≤ 100) (ha : a ≤ 1000000) :
    Calls Try.prog 12 #[.int .i64 n, .pointer (some ⟨v, 0, none⟩)] w (DigPost n g B (a + n) b w) := by
  have hn2 : (n : Int) ≤ 100 := by omega
  go_enter Try.func12, Try.ntmps12
  go_wp2_with fail
  go_loopw [4, 6] (fun v4 v6 wr => ∃ (k : Nat) (ds : List Int), k ≤ n ∧ v6 = .int .i64 k ∧ Digits k ds ∧ v4 = .string (strOfNums ds) ∧ Mk wr g B (a + k) b ∧ Ref wr v g ∧ w.grownBy wr (some g)) (fun _ v6 _ => n - (intOf v6).toNat)
  case atStart => exact ⟨0, [], by omega, rfl, ⟨rfl, fun _ h => absurd h (by simp)⟩, rfl, hm.at_most (by omega) (by omega) (by omega) (by obtain ⟨_, _, _, _, _, _, _, _, _, _, _, _, _, _, _, _, _, _, _, _, _, h1⟩ := hm; exact h1), hv, grownBy_refl' w _⟩
  case round =>
    clear hm hv
    obtain ⟨k, ds, hk, rfl, hds, rfl, hm, hv, hg⟩ := hrel
    by_cases hlt : k < n
    · have hc := hv.cell
      have hsz : (strOfNums ds).size ≤ 100 := by rw [strOfNums_size, hds.1]; omega
      have HV := Lib.hid hv
      have HG := Lib.hid hg
      have hgl := hm.lt
      have hlt' := hv.lt
      clear hv hg
      go_wp2_with fail
      refine (word_any g B wr.heap.size 8 _ _ digWords _ (hm.alloc _) (by omega) (RStrs.new digWords rfl rfl) (by omega) (by omega) (by omega)).mono ?_
      rintro e w1 ⟨s, hs, rfl, hm1, hg1⟩
      obtain ⟨d, hd, rfl⟩ := digWords_one hs
      have hg2 : wr.grownBy w1 (some g) := grownBy_trans (World.grownBy_alloc wr _ _) hg1
      have HV1 := Lib.hid (HV.out.grown hg2 hne)
      have HG1 := Lib.hid (grownBy_trans HG.out hg2)
      have hs1 : (strOfNums [d]).size = 1 := rfl
      clear hg1 hg2 hm hc hs
      go_wp2_with fail
      go_roundw
      case rel =>
        refine ⟨k + 1, ds ++ [d], by omega, by go_num, ⟨by simp [hds.1], ?_⟩, by rw [strOfNums_append], hm1.at_most (by omega) (by omega) (by omega) (by obtain ⟨_, _, _, _, _, _, _, _, _, _, _, _, _, _, _, _, _, _, _, _, _, h1⟩ := hm1; exact h1), HV1.out, HG1.out⟩
        intro x hx
        rcases List.mem_append.1 hx with hx | hx
        · exact hds.2 x hx
        · simp at hx; rw [hx]; exact hd
      case measure => simp [intOf]; omega
    · have : k = n := by omega
      subst this
      go_wp2_with fail
      go_ret
      exact ⟨ds, hds, rfl, hm, hg⟩

theorem digits_int (N : Int) (g B v : Nat) (a b : Int) (w : World) (hm : Mk w g B a b) (hv : Ref w v g) (hne : v ≠ g) (h0 : 0 ≤ N) (hn : N ≤ 100) (ha : a ≤ 1000000) :
    Calls Try.prog 12 #[.int .i64 N, .pointer (some ⟨v, 0, none⟩)] w (DigPost N.toNat g B (a + N) b w) := by
  obtain ⟨n, rfl⟩ : ∃ n : Nat, N = n := ⟨N.toNat, by omega⟩
  exact digits_any n g B v a b w hm hv hne (by omega) ha

def signs : List ByteArray := [⟨#[]⟩, ⟨#[45]⟩, ⟨#[43]⟩]
def signsL : List (List Int) := [[], [45], [43]]
theorem signs_list {s : ByteArray} (h : s ∈ signs) : ∃ l ∈ signsL, s = strOfNums l := by
  simp only [signs, List.mem_cons, List.not_mem_nil, or_false] at h
  rcases h with rfl | rfl | rfl
  · exact ⟨[], by simp [signsL], rfl⟩
  · exact ⟨[45], by simp [signsL], rfl⟩
  · exact ⟨[43], by simp [signsL], rfl⟩
theorem signs_len {l : List Int} (h : l ∈ signsL) : l.length ≤ 1 := by
  simp only [signsL, List.mem_cons, List.not_mem_nil, or_false] at h
  rcases h with rfl | rfl | rfl <;> simp

/-- A sign, digits, and behind a point digits. -/
def DecForm (t : List Int) : Prop :=
  ∃ sg ∈ signsL, (∃ n I, 1 ≤ n ∧ n ≤ 8 ∧ Digits n I ∧ t = sg ++ I) ∨
    (∃ n m I F, n ≤ 8 ∧ 1 ≤ m ∧ m ≤ 8 ∧ Digits n I ∧ Digits m F ∧ t = sg ++ I ++ [46] ++ F)
theorem DecForm.len {t : List Int} (h : DecForm t) : t.length ≤ 18 := by
  obtain ⟨sg, hsg, h⟩ := h
  have := signs_len hsg
  rcases h with ⟨n, I, _, _, hI, rfl⟩ | ⟨n, m, I, F, _, _, _, hI, hF, rfl⟩
  · have := hI.1; simp; omega
  · have := hI.1; have := hF.1; simp; omega
def DecTPost (g : Nat) (w : World) (e : Ending) (w' : World) : Prop := ∃ t, DecForm t ∧ e = .returned (.string (strOfNums t)) ∧ Below g w w'

theorem heap_alloc_new' {w : World} {o : Obj} {g : Nat} (h : w.heap.size = g) : (w.alloc o).heap[g]? = some o := by subst h; exact heap_alloc_new w o
theorem RInts.nil (w : World) (B : Nat) : RInts w B none 0 [] := ⟨rfl, by omega, fun h => absurd h (by omega)⟩

set_option maxHeartbeats 3200000 in
theorem DecimalText_at (A1 : Option Addr) (n1 c1 g : Nat) (xs : List Int) (w : World) (hgd : w.heap.size = g) (r1 : RInts w g A1 n1 xs) :
    Calls Try.prog 5 #[.slice A1 n1 c1] w (DecTPost g w) := by
  go_enter Try.func5, Try.ntmps5
  go_wp2_with fail
  refine (word_any g g (g + 1 + 1) 3 0 0 signs _ (((Mk.new hgd r1 (RInts.nil w g)).alloc _).alloc _) (by omega) (RStrs.new signs (by simp; omega) rfl) (by omega) (by omega) (by omega)).mono ?_
  rintro e w1 ⟨s, hs, rfl, hm, hg⟩
  obtain ⟨sg, hsg, rfl⟩ := signs_list hs
  have hsl := signs_len hsg
  have hss : (strOfNums sg).size ≤ 1 := by rw [strOfNums_size]; exact hsl
  have hb1 : Below g w w1 := ((((Below.refl _ _).alloc (by omega) _).alloc (by simp; omega) _).alloc (by simp; omega) _).grown hg (by simp; omega) (by rintro k hk; injection hk with hk; omega)
  have hv1 : Ref w1 (g + 1) g := (hg.block (g + 1) (by simp; omega) (by simp)).trans ((Below.heap_alloc _ _ _ (by simp; omega)).trans (heap_alloc_new' (by simp; omega)))
  have HV1 := Lib.hid hv1
  have HB1 := Lib.hid hb1
  have hc1 := hv1.cell
  clear hg hgd r1 hs hv1 hb1
  go_wp2_with fail
  refine (of_any g g 1 0 3 _ (by omega) (by omega) hm (by omega)).mono ?_
  rintro e w2 ⟨r, hr0, hr1, rfl, hm2, hg2⟩
  have hv2 := HV1.out.grown hg2 (by omega)
  have hb2 : Below g w w2 := HB1.out.grown hg2 (by have := hm.lt; omega) (by rintro k hk; injection hk with hk; omega)
  have HV2 := Lib.hid hv2
  have HB2 := Lib.hid hb2
  have hc2 := hv2.cell
  clear hm hg2 hv2 hb2 hc1 HV1 HB1
  have hcases : r = 0 ∨ r = 1 ∨ r = 2 := by omega
  rcases hcases with rfl | rfl | rfl
  · go_wp2_with fail
    refine (of_any g g 2 0 8 _ (by omega) (by omega) hm2 (by omega)).mono ?_
    rintro e w3 ⟨m, hm0, hm1, rfl, hm3, hg3⟩
    have hv3 := HV2.out.grown hg3 (by omega)
    have hb3 : Below g w w3 := HB2.out.grown hg3 (by have := hm2.lt; omega) (by rintro k hk; injection hk with hk; omega)
    have HV3 := Lib.hid hv3
    have HB3 := Lib.hid hb3
    clear hm2 hg3 hv3 hb3 hc2
    go_wp2_with fail
    refine (digits_int (1 + m) g g (g + 1) 3 0 _ hm3 HV3.out (by omega) (by omega) (by omega) (by omega)).mono ?_
    rintro e w4 ⟨ds, hds, rfl, hm4, hg4⟩
    have hb4 : Below g w w4 := HB3.out.grown hg4 (by have := hm3.lt; omega) (by rintro k hk; injection hk with hk; omega)
    have HB4 := Lib.hid hb4
    have hsd : (strOfNums ds).size ≤ 8 := by rw [strOfNums_size, hds.1]; omega
    clear hm3 hg4 hb4
    go_wp2_with fail
    go_ret
    exact ⟨sg ++ ds, ⟨sg, hsg, .inl ⟨_, ds, by omega, by omega, hds, rfl⟩⟩, by rw [strOfNums_append]; rfl, HB4.out⟩
  · go_wp2_with fail
    refine (of_any g g 2 0 8 _ (by omega) (by omega) hm2 (by omega)).mono ?_
    rintro e w3 ⟨m, hm0, hm1, rfl, hm3, hg3⟩
    have hv3 := HV2.out.grown hg3 (by omega)
    have hb3 : Below g w w3 := HB2.out.grown hg3 (by have := hm2.lt; omega) (by rintro k hk; injection hk with hk; omega)
    have HV3 := Lib.hid hv3
    have HB3 := Lib.hid hb3
    clear hm2 hg3 hv3 hb3 hc2
    go_wp2_with fail
    refine (digits_int (1 + m) g g (g + 1) 3 0 _ hm3 HV3.out (by omega) (by omega) (by omega) (by omega)).mono ?_
    rintro e w4 ⟨ds, hds, rfl, hm4, hg4⟩
    have hb4 : Below g w w4 := HB3.out.grown hg4 (by have := hm3.lt; omega) (by rintro k hk; injection hk with hk; omega)
    have HB4 := Lib.hid hb4
    have hsd : (strOfNums ds).size ≤ 8 := by rw [strOfNums_size, hds.1]; omega
    clear hm3 hg4 hb4
    go_wp2_with fail
    go_ret
    exact ⟨sg ++ [] ++ [46] ++ ds, ⟨sg, hsg, .inr ⟨0, _, [], ds, by omega, by omega, by omega, ⟨rfl, fun _ h => absurd h (by simp)⟩, hds, rfl⟩⟩, by rw [strOfNums_append, List.append_nil, strOfNums_append]; rfl, HB4.out⟩
  · have tok1 : True := trivial
    have tok2 : True := trivial
    go_wp2_with fail
    go_region_held3 (fun w' => w'.cell? ⟨g + 1, 0, none⟩ = some (.pointer (some ⟨g, 0, none⟩))) (go_keep)
      (first | (go_at_call 13; refine (of_any g g _ 0 8 _ (by omega) (by omega) (by exact hm2) (by omega)).mono ?_; rintro e w3 ⟨m, hm0, hm1, rfl, hm3, hg3⟩; have hwr : IntKind.i64.wrap (1 + m) = 1 + m := IntWalk.i64_in _ (by omega); have hv3 := HV2.out.grown ⟨hg3.os, hg3.tape, hg3.output, hg3.size, hg3.block⟩ (by omega); have hb3 : Below g w w3 := HB2.out.grown ⟨hg3.os, hg3.tape, hg3.output, hg3.size, hg3.block⟩ (by have := hm2.lt; omega) (by rintro k hk; injection hk with hk; omega); have hc3 := hv3.cell; clear HV2 HB2 hm2 hg3; have HV2 := Lib.hid hv3; have HB2 := Lib.hid hb3; have hm2 := hm3; clear hm3 hv3 hb3) | (go_at_call 12; have _t := tok1; refine (digits_int _ g g (g + 1) _ 0 _ (by exact hm2) (by exact HV2.out) (by omega) (by omega) (by omega) (by omega)).mono ?_; rintro e w3 ⟨ds1, hds1, rfl, hm3, hg3⟩; have hsds1 : (strOfNums ds1).size ≤ 8 := (by rw [strOfNums_size, hds1.1]; omega); have hq1 : ¬ 9223372036854775807 < (strOfNums sg).size + (strOfNums ds1).size := (by omega); have hq2 : ¬ 9223372036854775807 < (strOfNums sg).size + (strOfNums ds1).size + 1 := (by omega); clear tok1 _t; have hv3 := HV2.out.grown ⟨hg3.os, hg3.tape, hg3.output, hg3.size, hg3.block⟩ (by omega); have hb3 : Below g w w3 := HB2.out.grown ⟨hg3.os, hg3.tape, hg3.output, hg3.size, hg3.block⟩ (by have := hm2.lt; omega) (by rintro k hk; injection hk with hk; omega); have hc3 := hv3.cell; clear HV2 HB2 hm2 hg3; have HV2 := Lib.hid hv3; have HB2 := Lib.hid hb3; have hm2 := hm3; clear hm3 hv3 hb3) | (go_at_call 12; have _t := tok2; refine (digits_int _ g g (g + 1) _ 0 _ (by exact hm2) (by exact HV2.out) (by omega) (by omega) (by omega) (by omega)).mono ?_; rintro e w3 ⟨ds2, hds2, rfl, hm3, hg3⟩; have hsds2 : (strOfNums ds2).size ≤ 8 := (by rw [strOfNums_size, hds2.1]; omega); have hq3 : ¬ 9223372036854775807 < (strOfNums sg).size + (strOfNums ds1).size + 1 + (strOfNums ds2).size := (by omega); clear tok2 _t; have hv3 := HV2.out.grown ⟨hg3.os, hg3.tape, hg3.output, hg3.size, hg3.block⟩ (by omega); have hb3 : Below g w w3 := HB2.out.grown ⟨hg3.os, hg3.tape, hg3.output, hg3.size, hg3.block⟩ (by have := hm2.lt; omega) (by rintro k hk; injection hk with hk; omega); have hc3 := hv3.cell; clear HV2 HB2 hm2 hg3; have HV2 := Lib.hid hv3; have HB2 := Lib.hid hb3; have hm2 := hm3; clear hm3 hv3 hb3))
    go_wp2_with fail
    go_ret
    exact ⟨sg ++ ds1 ++ [46] ++ ds2, ⟨sg, hsg, .inr ⟨_, _, ds1, ds2, by omega, by omega, by omega, hds1, hds2, rfl⟩⟩, by rw [strOfNums_append, strOfNums_append, strOfNums_append]; rfl, HB2.out⟩

end Go.Proofs.Ythfogblmcmlkhaa
