/-
  The texts of JSON that the maker writes, and the contracts of the inputs methods.
-/
import Derived.Test.YthoekplablhgfaaGreatDoorMBase
import Derived.Laws.BytesArg
import Derived.Deep.QuietTactic
import Derived.Deep.DeepCutAuto
import Derived.Deep.CutBlock
import Derived.IntWalk
import Derived.BigQuiet

/- JText -/
namespace Go.Proofs.YthoekplablhgfaaGreatDoor
open Go.RowKit
set_option linter.unusedVariables false

theorem str_append (xs ys : List Int) : strOfNums (xs ++ ys) = strOfNums xs ++ strOfNums ys := by
  unfold strOfNums
  apply ByteArray.ext
  apply Array.ext'
  rw [ByteArray.data_append, Array.toList_append]
  simp
theorem str_size (xs : List Int) : (strOfNums xs).size = xs.length := by simp [strOfNums, ByteArray.size]
theorem words_list {ss : List ByteArray} {ssL : List (List Int)} (e : ss = ssL.map strOfNums) {s : ByteArray} (h : s ∈ ss) : ∃ l ∈ ssL, s = strOfNums l := by
  rw [e] at h
  obtain ⟨l, hl, rfl⟩ := List.mem_map.1 h
  exact ⟨l, hl, rfl⟩
theorem len_all {L : List (List Int)} {l : List Int} {k : Nat} (h : l ∈ L) (hk : (L.all fun x => decide (x.length ≤ k)) = true) : l.length ≤ k := by
  simpa using List.all_eq_true.1 hk l h

def jws : List ByteArray := [⟨#[]⟩, ⟨#[32]⟩, ⟨#[10, 9]⟩, ⟨#[13, 10]⟩]
def jwsL : List (List Int) := [[], [32], [10, 9], [13, 10]]
theorem jws_list {s : ByteArray} (h : s ∈ jws) : ∃ l ∈ jwsL, s = strOfNums l := words_list (by rfl) h
def jstr : List ByteArray := [⟨#[97]⟩, ⟨#[32, 98]⟩, ⟨#[92, 110]⟩, ⟨#[92, 34]⟩, ⟨#[92, 92]⟩, ⟨#[92, 47]⟩, ⟨#[92, 117, 48, 48, 52, 49]⟩, ⟨#[92, 117, 100, 56, 51, 100, 92, 117, 100, 101, 48, 48]⟩, ⟨#[195, 169]⟩, ⟨#[240, 159, 152, 128]⟩, ⟨#[92, 117, 48, 48, 48, 48]⟩, ⟨#[58]⟩, ⟨#[123]⟩, ⟨#[44]⟩, ⟨#[92, 116]⟩, ⟨#[32, 32]⟩]
def jstrL : List (List Int) := [[97], [32, 98], [92, 110], [92, 34], [92, 92], [92, 47], [92, 117, 48, 48, 52, 49], [92, 117, 100, 56, 51, 100, 92, 117, 100, 101, 48, 48], [195, 169], [240, 159, 152, 128], [92, 117, 48, 48, 48, 48], [58], [123], [44], [92, 116], [32, 32]]
theorem jstr_list {s : ByteArray} (h : s ∈ jstr) : ∃ l ∈ jstrL, s = strOfNums l := words_list (by rfl) h
def jsg : List ByteArray := [⟨#[]⟩, ⟨#[45]⟩]
def jsgL : List (List Int) := [[], [45]]
theorem jsg_list {s : ByteArray} (h : s ∈ jsg) : ∃ l ∈ jsgL, s = strOfNums l := words_list (by rfl) h
def jint : List ByteArray := [⟨#[48]⟩, ⟨#[49]⟩, ⟨#[49, 48]⟩, ⟨#[49, 48, 48, 48, 48, 48]⟩, ⟨#[49, 50, 51, 52, 53, 54, 55, 56, 57]⟩, ⟨#[55]⟩, ⟨#[49, 48, 48, 48, 48, 48, 48, 48, 48, 48, 48, 48, 48]⟩]
def jintL : List (List Int) := [[48], [49], [49, 48], [49, 48, 48, 48, 48, 48], [49, 50, 51, 52, 53, 54, 55, 56, 57], [55], [49, 48, 48, 48, 48, 48, 48, 48, 48, 48, 48, 48, 48]]
theorem jint_list {s : ByteArray} (h : s ∈ jint) : ∃ l ∈ jintL, s = strOfNums l := words_list (by rfl) h
def jfr : List ByteArray := [⟨#[48]⟩, ⟨#[53]⟩, ⟨#[53, 48]⟩, ⟨#[48, 48, 48]⟩, ⟨#[48, 48, 49]⟩, ⟨#[50, 53]⟩, ⟨#[49, 50, 51, 52, 53, 54]⟩, ⟨#[48, 48, 48, 48, 48, 48, 48, 49]⟩]
def jfrL : List (List Int) := [[48], [53], [53, 48], [48, 48, 48], [48, 48, 49], [50, 53], [49, 50, 51, 52, 53, 54], [48, 48, 48, 48, 48, 48, 48, 49]]
theorem jfr_list {s : ByteArray} (h : s ∈ jfr) : ∃ l ∈ jfrL, s = strOfNums l := words_list (by rfl) h
def je : List ByteArray := [⟨#[101]⟩, ⟨#[69]⟩]
def jeL : List (List Int) := [[101], [69]]
theorem je_list {s : ByteArray} (h : s ∈ je) : ∃ l ∈ jeL, s = strOfNums l := words_list (by rfl) h
def jes : List ByteArray := [⟨#[]⟩, ⟨#[43]⟩, ⟨#[45]⟩]
def jesL : List (List Int) := [[], [43], [45]]
theorem jes_list {s : ByteArray} (h : s ∈ jes) : ∃ l ∈ jesL, s = strOfNums l := words_list (by rfl) h
def jex : List ByteArray := [⟨#[48]⟩, ⟨#[49]⟩, ⟨#[50]⟩, ⟨#[48, 53]⟩, ⟨#[49, 48]⟩, ⟨#[51, 48, 48]⟩]
def jexL : List (List Int) := [[48], [49], [50], [48, 53], [49, 48], [51, 48, 48]]
theorem jex_list {s : ByteArray} (h : s ∈ jex) : ∃ l ∈ jexL, s = strOfNums l := words_list (by rfl) h
def jlit : List ByteArray := [⟨#[110, 117, 108, 108]⟩, ⟨#[116, 114, 117, 101]⟩, ⟨#[102, 97, 108, 115, 101]⟩]
def jlitL : List (List Int) := [[110, 117, 108, 108], [116, 114, 117, 101], [102, 97, 108, 115, 101]]
theorem jlit_list {s : ByteArray} (h : s ∈ jlit) : ∃ l ∈ jlitL, s = strOfNums l := words_list (by rfl) h

/-- A maker's text. -/
def JPost (P : List Int → Prop) (g B : Nat) (a b : Int) (w : World) (e : Ending) (w' : World) : Prop :=
  ∃ t, P t ∧ e = .returned (.string (strOfNums t)) ∧ Mk w' g B a b ∧ w.grownBy w' (some g)

set_option maxHeartbeats 1600000 in
theorem jsonSpace_any (g B : Nat) (a b : Int) (w : World) (hm : Mk w g B a b) (hb : b ≤ 999999999999) :
    Calls Tryz.prog 11 #[.pointer (some ⟨g, 0, none⟩)] w (JPost (· ∈ jwsL) g B a (b + 1) w) := by
  have hm1 := hm.alloc (.cells (jws.map Value.string).toArray 9)
  have hlt := hm.lt
  go_enter Tryz.func11, Tryz.ntmps11
  go_wp2_with fail
  refine (how_any g B a b 4 _ (by omega) (by omega) hm1 hb).mono ?_
  rintro e w' ⟨r, hr0, hr1, rfl, hm', hg⟩
  have hh' : w'.heap[w.heap.size]? = some (.cells (jws.map Value.string).toArray 9 (0, 0)) :=
    (hg.block w.heap.size (by simp) (by simp; omega)).trans (heap_alloc_new w _)
  have hg' : w.grownBy w' (some g) := grownBy_trans (World.grownBy_alloc w _ _) hg
  clear hm1
  have hcases : r = 0 ∨ r = 1 ∨ r = 2 ∨ r = 3 := by omega
  rcases hcases with rfl | rfl | rfl | rfl
  · have hcell : w'.cell? ⟨w.heap.size, 0, none⟩ = some (.string ⟨#[]⟩) := by rw [cell_of_row w' _ _ _ _ _ hh']; rfl
    clear hh'
    go_wp2
    go_ret
    exact ⟨[], by decide, rfl, hm', hg'⟩
  · have hcell : w'.cell? ⟨w.heap.size, 1, none⟩ = some (.string ⟨#[32]⟩) := by rw [cell_of_row w' _ _ _ _ _ hh']; rfl
    clear hh'
    go_wp2
    go_ret
    exact ⟨[32], by decide, rfl, hm', hg'⟩
  · have hcell : w'.cell? ⟨w.heap.size, 2, none⟩ = some (.string ⟨#[10, 9]⟩) := by rw [cell_of_row w' _ _ _ _ _ hh']; rfl
    clear hh'
    go_wp2
    go_ret
    exact ⟨[10, 9], by decide, rfl, hm', hg'⟩
  · have hcell : w'.cell? ⟨w.heap.size, 3, none⟩ = some (.string ⟨#[13, 10]⟩) := by rw [cell_of_row w' _ _ _ _ _ hh']; rfl
    clear hh'
    go_wp2
    go_ret
    exact ⟨[13, 10], by decide, rfl, hm', hg'⟩

/-- Some words, one behind the other. -/
def JWords : Nat → List Int → Prop
  | 0, t => t = []
  | n + 1, t => ∃ u w, JWords n u ∧ w ∈ jstrL ∧ t = u ++ w
theorem JWords.len : ∀ {n : Nat} {t : List Int}, JWords n t → t.length ≤ 12 * n
  | 0, _, h => by rw [h]; simp
  | n + 1, _, ⟨u, w, hu, hw, e⟩ => by
    have h1 := JWords.len hu
    have h2 := len_all (k := 12) hw (by decide)
    rw [e, List.length_append]
    omega
/-- A string. -/
def JStr (t : List Int) : Prop := ∃ n u, n ≤ 4 ∧ JWords n u ∧ t = 34 :: u ++ [34]
theorem JStr.len {t : List Int} (h : JStr t) : t.length ≤ 50 := by
  obtain ⟨n, u, hn, hu, rfl⟩ := h
  have := hu.len
  simp
  omega

set_option maxHeartbeats 3200000 in
theorem jsonString_any (g B : Nat) (a b : Int) (w : World) (hm : Mk w g B a b) (ha : a ≤ 99999999999) :
    Calls Tryz.prog 21 #[.pointer (some ⟨g, 0, none⟩)] w (JPost JStr g B (a + 5) b w) := by
  go_enter Tryz.func21, Tryz.ntmps21
  have hmb : b ≤ 1000000000000 := by obtain ⟨_, _, _, _, _, _, _, _, _, _, _, _, _, _, _, _, _, _, _, _, _, h1⟩ := hm; exact h1
  go_wp2_with fail
  refine (of_any g B a b 5 _ (by omega) (by omega) hm (by omega)).mono ?_
  rintro e w1 ⟨r, hr0, hr1, rfl, hm1, hg1⟩
  have HG := Lib.hid hg1
  clear hm hg1
  go_wp2_with fail
  go_loopw [3, 6] (fun v3 v6 wr => ∃ (k : Nat) (t : List Int), (k : Int) ≤ r ∧ v6 = .int .i64 (k : Nat) ∧ v3 = .string (strOfNums (34 :: t)) ∧ RowKit.Hid (JWords k t) ∧ Mk wr g B (a + 1 + (k : Int)) b ∧ RowKit.Hid (w.grownBy wr (some g))) (fun _ v6 _ => (r - intOf v6).toNat)
  case atStart => exact ⟨0, [], by omega, rfl, rfl, Lib.hid rfl, hm1.at_most (by omega) (by omega) (by omega) (by omega), HG⟩
  case round =>
    clear hm1 HG
    obtain ⟨k, t, hk, rfl, rfl, HW, hm, HG⟩ := hrel
    have hl := HW.out.len
    have hsz : (strOfNums (34 :: t)).size ≤ 60 := by rw [str_size, List.length_cons]; omega
    have hlt := hm.lt
    by_cases hlt2 : (k : Int) < r
    · go_wp2_with fail
      refine (word_any g B wr.heap.size 16 _ _ jstr _ (hm.alloc _) (by omega) (RStrs.new jstr rfl rfl) (by omega) (by omega) (by omega)).mono ?_
      rintro e w2 ⟨s, hs, rfl, hm2, hg2⟩
      obtain ⟨l, hl2, rfl⟩ := jstr_list hs
      have hls : (strOfNums l).size ≤ 12 := by rw [str_size]; exact len_all hl2 (by decide)
      have hg3 : w.grownBy w2 (some g) := grownBy_trans HG.out (grownBy_trans (World.grownBy_alloc wr _ _) hg2)
      have HG3 := Lib.hid hg3
      clear hg2 hg3 hm hs
      go_wp2_with fail
      go_roundw
      case rel => exact ⟨k + 1, t ++ l, by omega, by go_num, by rw [← str_append]; rfl, Lib.hid ⟨t, l, HW.out, hl2, rfl⟩, hm2.at_most (by omega) (by omega) (by omega) (by omega), HG3⟩
      case measure => simp [intOf]; omega
    · go_wp2_with fail
      go_ret
      exact ⟨34 :: t ++ [34], ⟨k, t, by omega, HW.out, rfl⟩, by rw [str_append]; rfl, hm.at_most (by omega) (by omega) (by omega) (by omega), HG.out⟩

/-- A number. -/
def JNum (t : List Int) : Prop := ∃ s ∈ jsgL, ∃ i ∈ jintL, ∃ f, (f = [] ∨ ∃ d ∈ jfrL, f = 46 :: d) ∧ ∃ x, (x = [] ∨ ∃ e ∈ jeL, ∃ q ∈ jesL, ∃ n ∈ jexL, x = e ++ q ++ n) ∧ t = s ++ i ++ f ++ x
theorem JNum.len {t : List Int} (h : JNum t) : t.length ≤ 30 := by
  obtain ⟨s, hs, i, hi, f, hf, x, hx, rfl⟩ := h
  have h1 := len_all (k := 1) hs (by decide)
  have h2 := len_all (k := 13) hi (by decide)
  have h3 : f.length ≤ 9 := by
    rcases hf with rfl | ⟨d, hd, rfl⟩
    · simp
    · have := len_all (k := 8) hd (by decide); simp; omega
  have h4 : x.length ≤ 5 := by
    rcases hx with rfl | ⟨e, he, q, hq, n, hn, rfl⟩
    · simp
    · have := len_all (k := 1) he (by decide)
      have := len_all (k := 1) hq (by decide)
      have := len_all (k := 3) hn (by decide)
      simp; omega
  simp only [List.length_append]
  omega

end Go.Proofs.YthoekplablhgfaaGreatDoor

/- JTree -/
namespace Go.Proofs.YthoekplablhgfaaGreatDoor
open Go.RowKit
set_option linter.unusedVariables false

/-- A value: a word, a number, a string (as they are written), a row of values, a row of names and values. -/
inductive JVal where
  | lit (t : List Int)
  | num (t : List Int)
  | str (t : List Int)
  | arr (l : List JVal)
  | obj (l : List (List Int × JVal))

/-- White space. -/
def JWs (s : List Int) : Prop := ∀ c ∈ s, c = 32 ∨ c = 9 ∨ c = 10 ∨ c = 13
/-- Things set out one behind the other, a comma between. -/
def Items {α : Type} (T : α → List Int → Prop) : List α → List Int → Prop
  | [], t => t = []
  | [x], t => ∃ u s, T x u ∧ JWs s ∧ t = u ++ s
  | x :: y :: l, t => ∃ u s s' v, T x u ∧ JWs s ∧ JWs s' ∧ Items T (y :: l) v ∧ t = u ++ s ++ 44 :: s' ++ v
theorem Items.one {α : Type} {T : α → List Int → Prop} {x : α} {u s : List Int} (hu : T x u) (hs : JWs s) : Items T [x] (u ++ s) := ⟨u, s, hu, hs, rfl⟩
theorem Items.snoc {α : Type} {T : α → List Int → Prop} {x : α} {u s s' : List Int} (hu : T x u) (hs : JWs s) (hs' : JWs s') : ∀ {l : List α} {t : List Int}, l ≠ [] → Items T l t → Items T (l ++ [x]) (t ++ 44 :: s' ++ (u ++ s))
  | [], _, h, _ => absurd rfl h
  | [y], t, _, ⟨u1, s1, h1, h2, e⟩ => ⟨u1, s1, s', u ++ s, h1, h2, hs', ⟨u, s, hu, hs, rfl⟩, by rw [e]⟩
  | y :: z :: l, t, _, ⟨u1, s1, s2, v, h1, h2, h3, h4, e⟩ => by
    have ih := Items.snoc hu hs hs' (l := z :: l) (by simp) h4
    exact ⟨u1, s1, s2, v ++ 44 :: s' ++ (u ++ s), h1, h2, h3, ih, by rw [e]; simp⟩
/-- A name with its value. -/
def Pair (K : List Int → Prop) (T : JVal → List Int → Prop) (p : List Int × JVal) (t : List Int) : Prop := ∃ s s' u, K p.1 ∧ JWs s ∧ JWs s' ∧ T p.2 u ∧ t = p.1 ++ s ++ 58 :: s' ++ u
/-- How a value no deeper than d is written, white space ahead of and behind its parts; L, N, K: the words, numbers and strings there are. -/
def JTxt (L N K : List Int → Prop) : Nat → JVal → List Int → Prop
  | 0, _, _ => False
  | d + 1, v, t => match v with
    | .lit w => L w ∧ t = w
    | .num w => N w ∧ t = w
    | .str w => K w ∧ t = w
    | .arr l => l.length ≤ 3 ∧ ∃ s u, JWs s ∧ Items (JTxt L N K d) l u ∧ t = 91 :: s ++ u ++ [93]
    | .obj l => l.length ≤ 3 ∧ ∃ s u, JWs s ∧ Items (Pair K (JTxt L N K d)) l u ∧ t = 123 :: s ++ u ++ [125]

theorem jws_ws {s : List Int} (h : s ∈ jwsL) : JWs s := by
  simp only [jwsL, List.mem_cons, List.not_mem_nil, or_false] at h
  rcases h with rfl | rfl | rfl | rfl <;> intro c hc <;> simp at hc <;> omega
theorem jws_len {s : List Int} (h : s ∈ jwsL) : s.length ≤ 2 := len_all h (by decide)

/-- White space as the maker lays it: for the lengths. -/
def JMade (d : Nat) (v : JVal) (t : List Int) : Prop := JTxt (· ∈ jlitL) JNum JStr d v t
/-- How long a text of depth d can be. -/
def jcap : Nat → Nat
  | 0 => 0
  | d + 1 => 60 + 3 * (70 + jcap d)
/-- How many numbers it takes. -/
def jtake : Nat → Nat
  | 0 => 0
  | d + 1 => 12 + 3 * (6 + jtake d)
def jhow : Nat → Nat
  | 0 => 0
  | d + 1 => 1 + 3 * (4 + jhow d)

end Go.Proofs.YthoekplablhgfaaGreatDoor

/- Buf -/
namespace Go.Proofs.YthoekplablhgfaaGreatDoor
open Go.RowKit
set_option linter.unusedVariables false

/-- Block h holds the bytes xs, and tail behind them. -/
def Buf (w : World) (h : Nat) (xs : List Int) (tail : List Value) : Prop :=
  w.heap[h]? = some (.cells (xs.map (Value.int .u8) ++ tail).toArray 5 (0, 0))
theorem Buf.lt {w : World} {h : Nat} {xs : List Int} {tail : List Value} (hb : Buf w h xs tail) : h < w.heap.size := (Array.getElem?_eq_some_iff.1 hb).1
theorem Buf.cell {w : World} {h : Nat} {xs : List Int} {tail : List Value} (hb : Buf w h xs tail) (i : Nat) (hi : i < xs.length) : w.cell? ⟨h, i, none⟩ = some (.int .u8 (xs.getD i 0)) := by
  rw [cell_of_row w h i _ _ _ hb]
  simp [List.getElem?_append, hi, List.getD_eq_getElem?_getD]
theorem Buf.frozen {w : World} {h : Nat} {xs : List Int} {tail : List Value} (hb : Buf w h xs tail) (i : Nat) : w.frozen? ⟨h, i, none⟩ = false := by
  unfold Buf at hb
  simp [World.frozen?, hb]
theorem Buf.set {w : World} {h : Nat} {xs : List Int} {tail : List Value} (hb : Buf w h xs tail) (i : Nat) (hi : i < xs.length) (v : Int) : Buf (w.setCell ⟨h, i, none⟩ (.int .u8 v)) h (xs.set i v) tail := by
  unfold Buf at hb ⊢
  rw [heap_set hb]
  congr 2
  apply Array.ext'
  simp [List.map_set, List.set_append_left, hi]
theorem Buf.grown {w w' : World} {h : Nat} {xs : List Int} {tail : List Value} {r : Option Nat} (hb : Buf w h xs tail) (hg : w.grownBy w' r) (hr : some h ≠ r) : Buf w' h xs tail :=
  (hg.block h hb.lt hr).trans hb
/-- A row of the call's own, as a buffer. -/
theorem Buf.own {w : World} {base g n cap : Nat} {xs : List Int} (h : w.ownsRow base 5 1 (.slice (some ⟨g, 0, none⟩) n cap) n (xs.map (Value.int .u8))) (hn : xs.length = n) : n ≤ cap ∧ cap ≤ maxLen ∧ base ≤ g ∧ ∃ tail, Buf w g xs tail ∧ tail.length = cap - n := by
  rcases h.2 with ⟨h1, _⟩ | ⟨g', cap', cur, h1, hb, hh, hc, hm, hs, ht⟩
  · cases h1
  · injection h1 with h1 h2 h3
    injection h1 with h1
    injection h1 with h1
    subst h1 h3
    refine ⟨hc, hm, hb, cur.toList.drop n, ?_, by simp; omega⟩
    unfold Buf
    rw [hh]
    congr 2
    apply Array.ext'
    rw [Nat.mul_one] at ht
    rw [← ht]
    simp
theorem own_nil (W : World) (base : Nat) (e : TypeId) (size : Nat) : W.ownsRow base e size (.slice none 0 0) 0 [] := ⟨by simp, .inl ⟨rfl, rfl⟩⟩
theorem one_cells (cs : List Int) : ∀ v ∈ cs.map (Value.int .u8), v.oneCell' = true := by
  intro v hv
  obtain ⟨x, _, rfl⟩ := List.mem_map.1 hv
  rfl

end Go.Proofs.YthoekplablhgfaaGreatDoor

/- JIn -/
namespace Go.Proofs.YthoekplablhgfaaGreatDoor
open Go.RowKit
set_option linter.unusedVariables false

/-- The input at block z: its bytes lie in block h (n of them), it stands at pos, the selection begins at st. -/
def Inp (w : World) (z h n cap pos st : Nat) (rf : Value) : Prop :=
  w.heap[z]? = some (.cells #[.slice (some ⟨h, 0, none⟩) n cap, .int .i64 (pos : Nat), .int .i64 (st : Nat), .nilIface, rf] 107 (0, 0))
section
variable {w w' : World} {z h n cap pos st : Nat} {rf : Value}
theorem Inp.c0 (i : Inp w z h n cap pos st rf) : w.cell? ⟨z, 0, none⟩ = some (.slice (some ⟨h, 0, none⟩) n cap) := by rw [cell_of_row w z 0 _ _ _ i]; rfl
theorem Inp.c1 (i : Inp w z h n cap pos st rf) : w.cell? ⟨z, 1, none⟩ = some (.int .i64 (pos : Nat)) := by rw [cell_of_row w z 1 _ _ _ i]; rfl
theorem Inp.c2 (i : Inp w z h n cap pos st rf) : w.cell? ⟨z, 2, none⟩ = some (.int .i64 (st : Nat)) := by rw [cell_of_row w z 2 _ _ _ i]; rfl
theorem Inp.c3 (i : Inp w z h n cap pos st rf) : w.cell? ⟨z, 3, none⟩ = some .nilIface := by rw [cell_of_row w z 3 _ _ _ i]; rfl
theorem Inp.c4 (i : Inp w z h n cap pos st rf) : w.cell? ⟨z, 4, none⟩ = some rf := by rw [cell_of_row w z 4 _ _ _ i]; rfl
theorem Inp.fz (i : Inp w z h n cap pos st rf) (k : Nat) : w.frozen? ⟨z, k, none⟩ = false := by simp [World.frozen?, show w.heap[z]? = _ from i]
theorem Inp.keep (i : Inp w z h n cap pos st rf) (hk : w'.heap[z]? = w.heap[z]?) : Inp w' z h n cap pos st rf := hk.trans i
theorem Inp.lt (i : Inp w z h n cap pos st rf) : z < w.heap.size := (Array.getElem?_eq_some_iff.1 (show w.heap[z]? = _ from i)).1
theorem Inp.at_ (i : Inp w z h n cap pos st rf) (q : Nat) : Inp (w.setCell ⟨z, 1, none⟩ (.int .i64 (q : Nat))) z h n cap q st rf := (heap_set (show w.heap[z]? = _ from i) _).trans rfl
theorem Inp.from_ (i : Inp w z h n cap pos st rf) (q : Nat) : Inp (w.setCell ⟨z, 2, none⟩ (.int .i64 (q : Nat))) z h n cap pos q rf := (heap_set (show w.heap[z]? = _ from i) _).trans rfl
end
/-- What a method that moves the input leaves: block z alone is written. -/
def Moved (w w' : World) (z : Nat) : Prop := w.grownBy w' (some z)
theorem moved_set (w : World) (z o : Nat) (v : Value) : w.grownBy (w.setCell ⟨z, o, none⟩ v) (some z) :=
  ⟨rfl, rfl, rfl, by simp [World.setCell], fun k _ hk => Below.heap_setCell _ _ _ _ (fun e => hk (by rw [e]))⟩
theorem Buf.keep {w w' : World} {h : Nat} {xs : List Int} {tail : List Value} (hb : Buf w h xs tail) (hk : w'.heap[h]? = w.heap[h]?) : Buf w' h xs tail := hk.trans hb

theorem Peek_at (z h n cap pos st k : Nat) (rf : Value) (xs : List Int) (tail : List Value) (w : World) (hi : Inp w z h n cap pos st rf) (hb : Buf w h xs tail) (hx : pos + k < xs.length) (hn : xs.length = n) (hs : n ≤ 1000000) (hk : k ≤ 1000) :
    Calls Tryz.prog 51 #[.pointer (some ⟨z, 0, none⟩), .int .i64 (k : Nat)] w fun e w' => e = .returned (.int .u8 (xs.getD (pos + k) 0)) ∧ w = w' := by
  have k0 := hi.c0
  have k1 := hi.c1
  obtain ⟨q, hq⟩ : ∃ q, pos + k = q := ⟨_, rfl⟩
  have hc := hb.cell q (by omega)
  obtain ⟨c, hcd⟩ : ∃ c, xs.getD q 0 = c := ⟨_, rfl⟩
  rw [hq, hcd]
  rw [hcd] at hc
  have e1 : IntKind.i64.wrap (((k : Nat) : Int) + ((pos : Nat) : Int)) = ((q : Nat) : Int) := by rw [IntWalk.i64_in _ (by omega)]; omega
  have e2 : ((k : Nat) : Int) + ((pos : Nat) : Int) = ((q : Nat) : Int) := by omega
  have hqn : q < n := by omega
  clear hq hcd hi hb hx hn
  go_enter Tryz.func51, Tryz.ntmps51
  go_wp2_with fail
  go_ret
  exact ⟨rfl, rfl⟩

theorem Move_at (z h n cap pos st q : Nat) (k : Int) (rf : Value) (w : World) (hi : Inp w z h n cap pos st rf) (hq : (pos : Int) + k = (q : Nat)) (hs : q ≤ 1000000) (hp : pos ≤ 1000000) :
    Calls Tryz.prog 53 #[.pointer (some ⟨z, 0, none⟩), .int .i64 k] w fun e w' => e = .returned (.tuple #[]) ∧ Inp w' z h n cap q st rf ∧ w.grownBy w' (some z) := by
  have k1 := hi.c1
  have kf := hi.fz 1
  have HI := Lib.hid hi
  clear hi
  go_enter Tryz.func53, Tryz.ntmps53
  go_wp2_with fail
  go_end0
  exact ⟨rfl, HI.out.at_ q, moved_set _ _ _ _⟩

theorem Skip_at (z h n cap pos st : Nat) (rf : Value) (w : World) (hi : Inp w z h n cap pos st rf) :
    Calls Tryz.prog 54 #[.pointer (some ⟨z, 0, none⟩)] w fun e w' => e = .returned (.tuple #[]) ∧ Inp w' z h n cap pos pos rf ∧ w.grownBy w' (some z) := by
  have k1 := hi.c1
  have k2 := hi.c2
  have kf := hi.fz 2
  have HI := Lib.hid hi
  clear hi
  go_enter Tryz.func54, Tryz.ntmps54
  go_wp2_with fail
  go_end0
  exact ⟨rfl, HI.out.from_ pos, moved_set _ _ _ _⟩

theorem Rewind_at (z h n cap pos st k q : Nat) (rf : Value) (w : World) (hi : Inp w z h n cap pos st rf) (hq : st + k = q) (hs : q ≤ 1000000) :
    Calls Tryz.prog 71 #[.pointer (some ⟨z, 0, none⟩), .int .i64 (k : Nat)] w fun e w' => e = .returned (.tuple #[]) ∧ Inp w' z h n cap q st rf ∧ w.grownBy w' (some z) := by
  have k1 := hi.c1
  have k2 := hi.c2
  have kf := hi.fz 1
  have HI := Lib.hid hi
  have e2 : ((st : Nat) : Int) + ((k : Nat) : Int) = ((q : Nat) : Int) := by omega
  clear hi
  go_enter Tryz.func71, Tryz.ntmps71
  go_wp2_with fail
  go_end0
  exact ⟨rfl, HI.out.at_ q, moved_set _ _ _ _⟩

theorem Pos_at (z h n cap pos st k : Nat) (rf : Value) (w : World) (hi : Inp w z h n cap pos st rf) (hq : st + k = pos) (hs : pos ≤ 1000000) :
    Calls Tryz.prog 57 #[.pointer (some ⟨z, 0, none⟩)] w fun e w' => e = .returned (.int .i64 (k : Nat)) ∧ w.grownBy w' none := by
  have k1 := hi.c1
  have k2 := hi.c2
  have e2 : ((pos : Nat) : Int) - ((st : Nat) : Int) = ((k : Nat) : Int) := by omega
  have e3 : IntKind.i64.wrap (((pos : Nat) : Int) - ((st : Nat) : Int)) = ((k : Nat) : Int) := by rw [IntWalk.i64_in _ (by omega)]; omega
  clear hi hq
  go_enter Tryz.func57, Tryz.ntmps57
  go_wp2_with fail
  go_region
  go_wp2_with fail
  go_ret
  exact ⟨rfl, ⟨rfl, rfl, rfl, Nat.le_refl _, fun _ _ _ => rfl⟩⟩

theorem Lexeme_at (z h n cap pos st k : Nat) (rf : Value) (w : World) (hi : Inp w z h n cap pos st rf) (hk1 : 1 ≤ k) (hq : st + k = pos) (hs : pos ≤ 1000000) (hp : pos ≤ cap) :
    Calls Tryz.prog 70 #[.pointer (some ⟨z, 0, none⟩)] w fun e w' => e = .returned (.slice (some ⟨h, st, none⟩) k k) ∧ w.grownBy w' none := by
  have k0 := hi.c0
  have k1 := hi.c1
  have k2 := hi.c2
  have e2 : pos - st = k := by omega
  have i1 : ((st : Nat) : Int) ≤ ((pos : Nat) : Int) := by omega
  have i2 : ((pos : Nat) : Int) ≤ ((cap : Nat) : Int) := by omega
  have i3 : ¬ pos - st = 0 := by omega
  have i4 : ¬ k = 0 := by omega
  have i5 : ¬ pos = st := by omega
  clear hi hq
  go_enter Tryz.func70, Tryz.ntmps70
  go_wp2_with fail
  go_region
  go_wp2_with fail
  go_ret
  exact ⟨rfl, ⟨rfl, rfl, rfl, Nat.le_refl _, fun _ _ _ => rfl⟩⟩

theorem Shift_at (z h n cap pos st k : Nat) (rf : Value) (w : World) (hi : Inp w z h n cap pos st rf) (hk1 : 1 ≤ k) (hq : st + k = pos) (hs : pos ≤ 1000000) (hp : pos ≤ cap) :
    Calls Tryz.prog 55 #[.pointer (some ⟨z, 0, none⟩)] w fun e w' => e = .returned (.slice (some ⟨h, st, none⟩) k k) ∧ Inp w' z h n cap pos pos rf ∧ w.grownBy w' (some z) := by
  have k0 := hi.c0
  have k1 := hi.c1
  have k2 := hi.c2
  have kf := hi.fz 2
  have HI := Lib.hid hi
  have e2 : pos - st = k := by omega
  have i1 : ((st : Nat) : Int) ≤ ((pos : Nat) : Int) := by omega
  have i2 : ((pos : Nat) : Int) ≤ ((cap : Nat) : Int) := by omega
  have i3 : ¬ pos - st = 0 := by omega
  have i4 : ¬ k = 0 := by omega
  have i5 : ¬ pos = st := by omega
  clear hi hq
  go_enter Tryz.func55, Tryz.ntmps55
  go_wp2_with fail
  go_region
  go_wp2_with fail
  go_ret
  exact ⟨rfl, HI.out.from_ pos, ⟨rfl, rfl, rfl, by simp [World.setCell], fun k _ hk => Below.heap_setCell _ _ _ _ (fun e => hk (by rw [e]))⟩⟩

end Go.Proofs.YthoekplablhgfaaGreatDoor
