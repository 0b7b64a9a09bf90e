/-
  The contracts of spec.isDigit, spec.whole and spec.Value: Value computes valL.
-/
import Derived.Test.YthfogblmcmlkhaaBytes
import Derived.IntWalk
import Derived.Deep.DeepCutAuto
import Derived.Deep.LoopGhost
namespace Go.Proofs.Ythfogblmcmlkhaa
open Go.RowKit
set_option linter.unusedVariables false

def isDig (c : Int) : Bool := decide (48 ≤ c) && decide (c ≤ 57)
theorem isDigit_yes (c : Int) (w : World) (h : 48 ≤ c ∧ c ≤ 57) :
    Calls Try.prog 15 #[.int .i64 c] w fun e w' => e = .returned (.bool true) ∧ w = w' := by
  obtain ⟨h0, h1⟩ := h
  go_enter Try.func15, Try.ntmps15
  go_wp2
  go_ret
  exact ⟨by simp, rfl⟩
theorem isDigit_no (c : Int) (w : World) (h : ¬ (48 ≤ c ∧ c ≤ 57)) :
    Calls Try.prog 15 #[.int .i64 c] w fun e w' => e = .returned (.bool false) ∧ w = w' := by
  by_cases h0 : 48 ≤ c
  · have h1 : ¬ c ≤ 57 := by omega
    clear h
    go_enter Try.func15, Try.ntmps15
    go_wp2
    go_ret
    exact ⟨by simp, rfl⟩
  · clear h
    go_enter Try.func15, Try.ntmps15
    go_wp2
    go_ret
    exact ⟨rfl, rfl⟩

/-- The digits of a number, ahead of s. -/
def wl (n : Nat) (s : List Int) : List Int := if n / 10 = 0 then ((48 + n % 10 : Nat) : Int) :: s else wl (n / 10) (((48 + n % 10 : Nat) : Int) :: s)
termination_by n
decreasing_by omega
def wholeL (n : Int) : List Int := if n < 0 then 45 :: wl n.natAbs [] else wl n.natAbs []

theorem conv_one (w : World) (c : Int) : (convert 34 9 (.slice (some ⟨w.heap.size, 0, none⟩) 1 1)).run Try.prog (w.alloc (.cells #[.int .u8 c] 5)) = .ok (.string (strOfNums [c])) (w.alloc (.cells #[.int .u8 c] 5)) :=
  run_convert_bytes_arg (P := Try.prog) (w := w.alloc (.cells #[.int .u8 c] 5)) 34 5 Try.underlying34 Try.underlying5 w.heap.size 0 1 1 [c] rfl (fun i hi => by
    obtain rfl : i = 0 := by omega
    rw [cell_of_row _ _ _ _ _ _ (heap_alloc_new w _)]
    rfl) 9 Try.underlying9

def WholePost (n : Int) (w : World) (e : Ending) (w' : World) : Prop := e = .returned (.string (strOfNums (wholeL n))) ∧ Below w.heap.size w w'

set_option maxHeartbeats 1600000 in
theorem whole_any (n : Int) (w : World) (h0 : -1000000000 ≤ n) (h1 : n ≤ 1000000000) :
    Calls Try.prog 16 #[.int .i64 n] w (WholePost n w) := by
  go_enter Try.func16, Try.ntmps16
  go_upto_if 7 with (fail)
  go_cut [0] (fun v0 wc => v0 = .int .i64 (n.natAbs : Int) ∧ w = wc)
  case first =>
    by_cases hn : n < 0
    · go_wp2_with fail
      go_meet
      case rel => exact ⟨by rw [show ((n.natAbs : Nat) : Int) = -n from by omega], rfl⟩
    · go_wp2_with fail
      go_meet
      case rel => exact ⟨by rw [show ((n.natAbs : Nat) : Int) = n from by omega], rfl⟩
  case rest =>
    obtain ⟨rfl, rfl⟩ := hcut
    obtain ⟨m, hm⟩ : ∃ m, n.natAbs = m := ⟨_, rfl⟩
    rw [hm]
    have hm2 : m ≤ 1000000000 := by omega
    have HM := Lib.hid hm
    clear hm
    go_wp2_with fail
    go_loopw [0, 3] (fun v0 v3 wr => ∃ (k : Nat) (s : List Int), k ≤ m ∧ v0 = .int .i64 (k : Int) ∧ v3 = .string (strOfNums s) ∧ s.length + k ≤ m + 1000 ∧ wl k s = wl m [] ∧ Below w.heap.size w wr) (fun v0 _ _ => (intOf v0).toNat)
    case atStart => exact ⟨m, [], by omega, rfl, rfl, by simp, rfl, Below.refl _ _⟩
    case round =>
      obtain ⟨k, s, hk, rfl, rfl, hl, hwl, hb⟩ := hrel
      have hx0 : 0 ≤ (k : Int) % 10 := by omega
      have hx1 : (k : Int) % 10 ≤ 9 := by omega
      have hsz : (strOfNums s).size ≤ 2000000000 := by rw [strOfNums_size]; omega
      have hbx := hb.alloc hb.size (.cells #[.int .u8 (48 + (k : Int) % 10)] 5)
      have hcv := conv_one wr (48 + (k : Int) % 10)
      have hs1 : (strOfNums [48 + (k : Int) % 10]).size = 1 := rfl
      have hc : strOfNums (((48 + k % 10 : Nat) : Int) :: s) = strOfNums [48 + (k : Int) % 10] ++ strOfNums s := by
        rw [← str_append, show ((48 + k % 10 : Nat) : Int) = 48 + (k : Int) % 10 from by omega]
        rfl
      have HC := Lib.hid hc
      have HWL := Lib.hid hwl
      have HB := Lib.hid hbx
      clear hc hwl hb hbx
      by_cases hz : k / 10 = 0
      · have hz' : (k : Int) / 10 = 0 := by omega
        by_cases hn : n < 0
        · go_wp2_with fail
          go_ret
          refine ⟨?_, HB.out⟩
          unfold wholeL
          rw [if_pos hn, HM.out, ← HWL.out, wl, if_pos hz, show strOfNums (45 :: (((48 + k % 10 : Nat) : Int) :: s)) = strOfNums [45] ++ strOfNums (((48 + k % 10 : Nat) : Int) :: s) from by rw [← str_append]; rfl, HC.out]
          rfl
        · go_wp2_with fail
          go_ret
          refine ⟨?_, HB.out⟩
          unfold wholeL
          rw [if_neg (by omega), HM.out, ← HWL.out, wl, if_pos hz, HC.out]
          rfl
      · have hz' : ¬ (k : Int) / 10 = 0 := by omega
        have hz2 : ((k : Int) / 10 == 0) = false := by simpa using hz'
        go_wp2_with fail
        go_roundw
        case rel =>
          refine ⟨k / 10, ((48 + k % 10 : Nat) : Int) :: s, by omega, by go_num, HC.out.symm ▸ rfl, ?_, ?_, HB.out⟩
          · simp only [List.length_cons]; omega
          · rw [← HWL.out]
            conv => rhs; rw [wl, if_neg hz]
        case measure => simp [intOf]; omega

/-! What Value reckons. -/
def mant : List Int → List Int × Int × Bool → (List Int × Int) × List Int
  | [], (d, p, _) => ((d, p), [])
  | c :: r, (d, p, b) => if c = 101 ∨ c = 69 then ((d, p), c :: r) else if c = 46 then mant r (d, p, true) else mant r (d ++ [c], (if b = true then p - 1 else p), b)
def expo : List Int → Int × Bool → Int × Bool
  | [], s => s
  | c :: r, (n, m) => if c = 45 then expo r (n, true) else if (48 ≤ c ∧ c ≤ 57) ∧ n < 1000000 then expo r (n * 10 + (c - 48), m) else expo r (n, m)
def dropZ : List Int → List Int
  | [] => []
  | c :: r => if c = 48 then dropZ r else c :: r
/-- Noughts at the end go into the power; the digits stand in reverse. -/
def tailZ : List Int → Int → List Int × Int
  | [], p => ([], p)
  | c :: r, p => if c = 48 then tailZ r (p + 1) else (c :: r, p)
def signOf (l : List Int) : List Int × List Int := match l with
  | c :: r => if c = 45 then ([45], r) else if c = 43 then ([], r) else ([], c :: r)
  | [] => ([], [])
def power (m : (List Int × Int) × List Int) : Int := match m.2 with
  | [] => m.1.2
  | _ :: r => m.1.2 + (if (expo r (0, false)).2 = true then -(expo r (0, false)).1 else (expo r (0, false)).1)
/-- Sign, digits and power, of 0 none. -/
def parts (l : List Int) : List Int × List Int × Int :=
  let m := mant (signOf l).2 ([], 0, false)
  let t := tailZ (dropZ m.1.1).reverse (power m)
  ((signOf l).1, t.1.reverse, t.2)
def valL (l : List Int) : List Int := if (parts l).2.1 = [] then [48] else (parts l).1 ++ (parts l).2.1 ++ [101] ++ wholeL (parts l).2.2

end Go.Proofs.Ythfogblmcmlkhaa
