/-
  The contract of spec.Value.
-/
import Derived.Test.YthoekplablhgfaaGreatDoorMRead
import Derived.IntWalk
import Derived.Deep.DeepCutAuto
import Derived.Deep.LoopGhost
import Derived.Deep.CutBlock
import Derived.Laws.Closers25b

/- Value -/
namespace Go.Proofs.YthoekplablhgfaaGreatDoor
open Go.RowKit
set_option linter.unusedVariables false

def isDig (c : Int) : Bool := decide (48 ≤ c) && decide (c ≤ 57)
theorem isDigit_yes (c : Int) (w : World) (h : 48 ≤ c ∧ c ≤ 57) :
    Calls Tryz.prog 29 #[.int .i64 c] w fun e w' => e = .returned (.bool true) ∧ w = w' := by
  obtain ⟨h0, h1⟩ := h
  go_enter Tryz.func29, Tryz.ntmps29
  go_wp2
  go_ret
  exact ⟨by simp, rfl⟩
theorem isDigit_no (c : Int) (w : World) (h : ¬ (48 ≤ c ∧ c ≤ 57)) :
    Calls Tryz.prog 29 #[.int .i64 c] w fun e w' => e = .returned (.bool false) ∧ w = w' := by
  by_cases h0 : 48 ≤ c
  · have h1 : ¬ c ≤ 57 := by omega
    clear h
    go_enter Tryz.func29, Tryz.ntmps29
    go_wp2
    go_ret
    exact ⟨by simp, rfl⟩
  · clear h
    go_enter Tryz.func29, Tryz.ntmps29
    go_wp2
    go_ret
    exact ⟨rfl, rfl⟩

/-- The digits of a number, ahead of s. -/
def wl (n : Nat) (s : List Int) : List Int := if n / 10 = 0 then ((48 + n % 10 : Nat) : Int) :: s else wl (n / 10) (((48 + n % 10 : Nat) : Int) :: s)
termination_by n
decreasing_by omega
def wholeL (n : Int) : List Int := if n < 0 then 45 :: wl n.natAbs [] else wl n.natAbs []

theorem conv_one (w : World) (c : Int) : (convert 44 9 (.slice (some ⟨w.heap.size, 0, none⟩) 1 1)).run Tryz.prog (w.alloc (.cells #[.int .u8 c] 5)) = .ok (.string (strOfNums [c])) (w.alloc (.cells #[.int .u8 c] 5)) :=
  run_convert_bytes_arg (P := Tryz.prog) (w := w.alloc (.cells #[.int .u8 c] 5)) 44 5 Tryz.underlying44 Tryz.underlying5 w.heap.size 0 1 1 [c] rfl (fun i hi => by
    obtain rfl : i = 0 := by omega
    rw [cell_of_row _ _ _ _ _ _ (heap_alloc_new w _)]
    rfl) 9 Tryz.underlying9

def WholePost (n : Int) (w : World) (e : Ending) (w' : World) : Prop := e = .returned (.string (strOfNums (wholeL n))) ∧ Below w.heap.size w w'

set_option maxRecDepth 100000 in
set_option maxHeartbeats 1600000 in
theorem whole_any (n : Int) (w : World) (h0 : -1000000000 ≤ n) (h1 : n ≤ 1000000000) :
    Calls Tryz.prog 64 #[.int .i64 n] w (WholePost n w) := by
  go_enter Tryz.func64, Tryz.ntmps64
  go_upto_if 7 with (fail)
  go_cut [0] (fun v0 wc => v0 = .int .i64 (n.natAbs : Int) ∧ w = wc)
  case first =>
    by_cases hn : n < 0
    · go_wp2_with fail
      go_meet
      case rel => exact ⟨by rw [show ((n.natAbs : Nat) : Int) = -n from by omega], rfl⟩
    · go_wp2_with fail
      go_meet
      case rel => exact ⟨by rw [show ((n.natAbs : Nat) : Int) = n from by omega], rfl⟩
  case rest =>
    obtain ⟨rfl, rfl⟩ := hcut
    obtain ⟨m, hm⟩ : ∃ m, n.natAbs = m := ⟨_, rfl⟩
    rw [hm]
    have hm2 : m ≤ 1000000000 := by omega
    have HM := Lib.hid hm
    clear hm
    go_wp2_with fail
    go_loopw [0, 3] (fun v0 v3 wr => ∃ (k : Nat) (s : List Int), k ≤ m ∧ v0 = .int .i64 (k : Int) ∧ v3 = .string (strOfNums s) ∧ s.length + k ≤ m + 1000 ∧ wl k s = wl m [] ∧ Below w.heap.size w wr) (fun v0 _ _ => (intOf v0).toNat)
    case atStart => exact ⟨m, [], by omega, rfl, rfl, by simp, rfl, Below.refl _ _⟩
    case round =>
      obtain ⟨k, s, hk, rfl, rfl, hl, hwl, hb⟩ := hrel
      have hx0 : 0 ≤ (k : Int) % 10 := by omega
      have hx1 : (k : Int) % 10 ≤ 9 := by omega
      have hsz : (strOfNums s).size ≤ 2000000000 := by rw [strOfNums_size]; omega
      have hbx := hb.alloc hb.size (.cells #[.int .u8 (48 + (k : Int) % 10)] 5)
      have hcv := conv_one wr (48 + (k : Int) % 10)
      have hs1 : (strOfNums [48 + (k : Int) % 10]).size = 1 := rfl
      have hc : strOfNums (((48 + k % 10 : Nat) : Int) :: s) = strOfNums [48 + (k : Int) % 10] ++ strOfNums s := by
        rw [← str_append, show ((48 + k % 10 : Nat) : Int) = 48 + (k : Int) % 10 from by omega]
        rfl
      have HC := Lib.hid hc
      have HWL := Lib.hid hwl
      have HB := Lib.hid hbx
      clear hc hwl hb hbx
      by_cases hz : k / 10 = 0
      · have hz' : (k : Int) / 10 = 0 := by omega
        by_cases hn : n < 0
        · go_wp2_with fail
          go_ret
          refine ⟨?_, HB.out⟩
          unfold wholeL
          rw [if_pos hn, HM.out, ← HWL.out, wl, if_pos hz, show strOfNums (45 :: (((48 + k % 10 : Nat) : Int) :: s)) = strOfNums [45] ++ strOfNums (((48 + k % 10 : Nat) : Int) :: s) from by rw [← str_append]; rfl, HC.out]
          rfl
        · go_wp2_with fail
          go_ret
          refine ⟨?_, HB.out⟩
          unfold wholeL
          rw [if_neg (by omega), HM.out, ← HWL.out, wl, if_pos hz, HC.out]
          rfl
      · have hz' : ¬ (k : Int) / 10 = 0 := by omega
        have hz2 : ((k : Int) / 10 == 0) = false := by simpa using hz'
        go_wp2_with fail
        go_roundw
        case rel =>
          refine ⟨k / 10, ((48 + k % 10 : Nat) : Int) :: s, by omega, by go_num, HC.out.symm ▸ rfl, ?_, ?_, HB.out⟩
          · simp only [List.length_cons]; omega
          · rw [← HWL.out]
            conv => rhs; rw [wl, if_neg hz]
        case measure => simp [intOf]; omega

/-! What Value reckons. -/
def mant : List Int → List Int × Int × Bool → (List Int × Int) × List Int
  | [], (d, p, _) => ((d, p), [])
  | c :: r, (d, p, b) => if c = 101 ∨ c = 69 then ((d, p), c :: r) else if c = 46 then mant r (d, p, true) else mant r (d ++ [c], (if b = true then p - 1 else p), b)
def expo : List Int → Int × Bool → Int × Bool
  | [], s => s
  | c :: r, (n, m) => if c = 45 then expo r (n, true) else if (48 ≤ c ∧ c ≤ 57) ∧ n < 1000000 then expo r (n * 10 + (c - 48), m) else expo r (n, m)
def dropZ : List Int → List Int
  | [] => []
  | c :: r => if c = 48 then dropZ r else c :: r
/-- Noughts at the end go into the power; the digits stand in reverse. -/
def tailZ : List Int → Int → List Int × Int
  | [], p => ([], p)
  | c :: r, p => if c = 48 then tailZ r (p + 1) else (c :: r, p)
def signOf (l : List Int) : List Int × List Int := match l with
  | c :: r => if c = 45 then ([45], r) else if c = 43 then ([], r) else ([], c :: r)
  | [] => ([], [])
def power (m : (List Int × Int) × List Int) : Int := match m.2 with
  | [] => m.1.2
  | _ :: r => m.1.2 + (if (expo r (0, false)).2 = true then -(expo r (0, false)).1 else (expo r (0, false)).1)
/-- Sign, digits and power, of 0 none. -/
def parts (l : List Int) : List Int × List Int × Int :=
  let m := mant (signOf l).2 ([], 0, false)
  let t := tailZ (dropZ m.1.1).reverse (power m)
  ((signOf l).1, t.1.reverse, t.2)
def valL (l : List Int) : List Int := if (parts l).2.1 = [] then [48] else (parts l).1 ++ (parts l).2.1 ++ [101] ++ wholeL (parts l).2.2

end Go.Proofs.YthoekplablhgfaaGreatDoor

/- ValueWalk -/
namespace Go.Proofs.YthoekplablhgfaaGreatDoor
open Go.RowKit
set_option linter.unusedVariables false

def strOf : Value → ByteArray | .string s => s | _ => ⟨#[]⟩
def ValPost (s : ByteArray) (w : World) (e : Ending) (w' : World) : Prop := e = .returned (.string (strOfNums (valL (bytesL s)))) ∧ Below w.heap.size w w'

/-- Does a text begin with a sign? -/
def Sgn (l : List Int) (b : Bool) : Prop := (b = true ∧ ∃ c, l[0]? = some c ∧ (c = 45 ∨ c = 43)) ∨ (b = false ∧ ∀ c, l[0]? = some c → c ≠ 45 ∧ c ≠ 43)
theorem cons_of_first {l : List Int} {c : Int} (h : l[0]? = some c) : ∃ r, l = c :: r := by
  cases l with
  | nil => cases h
  | cons d r => simp at h; exact ⟨r, by rw [h]⟩

theorem drop_get {l : List Int} {k : Nat} (h : k < l.length) : l.drop k = l.getD k 0 :: l.drop (k + 1) := by
  rw [List.drop_eq_getElem_cons h, List.getD_eq_getElem?_getD, List.getElem?_eq_getElem h]
  rfl
theorem getD_mem {l : List Int} {k : Nat} (h : k < l.length) : l.getD k 0 ∈ l := by
  rw [List.getD_eq_getElem?_getD, List.getElem?_eq_getElem h]
  exact List.getElem_mem _
theorem extract_one {s : ByteArray} {k : Nat} (h : k < s.size) : s.extract k (k + 1) = strOfNums [(bytesL s).getD k 0] := by
  conv => lhs; rw [← str_bytesL s]
  rw [str_extract]
  congr 1
  have hl : k < (bytesL s).length := by rw [bytesL_length]; exact h
  rw [List.drop_take, show k + 1 - k = 1 from by omega, drop_get hl]
  rfl

theorem dropZ_len : ∀ l : List Int, (dropZ l).length ≤ l.length
  | [] => Nat.le_refl _
  | c :: r => by
    unfold dropZ
    split
    · exact Nat.le_trans (dropZ_len r) (by simp)
    · exact Nat.le_refl _
theorem dropZ_mem : ∀ (l : List Int) (x : Int), x ∈ dropZ l → x ∈ l
  | [], _, h => h
  | c :: r, x, h => by
    unfold dropZ at h
    split at h
    · exact List.mem_cons_of_mem _ (dropZ_mem r x h)
    · exact h
theorem wl_len (k : Nat) : ∀ (n : Nat) (s : List Int), n < 10 ^ (k + 1) → (wl n s).length ≤ s.length + (k + 1) := by
  induction k with
  | zero =>
    intro n s h
    rw [wl, if_pos (by omega)]
    simp
  | succ k ih =>
    intro n s h
    rw [wl]
    split
    · simp
    · have := ih (n / 10) (((48 + n % 10 : Nat) : Int) :: s) (by rw [Nat.pow_succ] at h; omega)
      simp only [List.length_cons] at this
      omega
theorem wholeL_len (q : Int) (h0 : -1000000000 ≤ q) (h1 : q ≤ 1000000000) : (wholeL q).length ≤ 100 := by
  have h := wl_len 9 q.natAbs [] (by omega)
  unfold wholeL
  split
  · simp only [List.length_cons, List.length_nil] at h ⊢; omega
  · simp only [List.length_nil] at h; omega
theorem str_nil : (strOfNums []).toList = [] := by
  rw [toList_nil_iff_emptyBytes]
  rfl
theorem str_cons (c : Int) (r : List Int) : ¬ (strOfNums (c :: r)).toList = [] := by
  rw [toList_nil_iff_emptyBytes]
  intro h
  have h2 := congrArg ByteArray.size h
  rw [strOfNums_size] at h2
  simp at h2

set_option maxRecDepth 100000 in
set_option maxHeartbeats 6400000 in
theorem Value_any (s : ByteArray) (w : World) (hs : s.size ≤ 100000) :
    Calls Tryz.prog 46 #[.string s] w (ValPost s w) := by
  obtain ⟨n, hn⟩ : ∃ n, s.size = n := ⟨_, rfl⟩
  obtain ⟨l, hl⟩ : ∃ l, bytesL s = l := ⟨_, rfl⟩
  have hll : l.length = n := by rw [← hl, bytesL_length, hn]
  have hbytes : ∀ x ∈ l, byteN x := by rw [← hl]; exact bytesL_byte s
  have hat : ∀ k (h : k < s.size), ((s[k]'h).toNat : Int) = l.getD k 0 := by
    intro k h
    rw [← hl, List.getD_eq_getElem?_getD, bytesL_get s k h]
    rfl
  have HL := Lib.hid hl
  have HLL := Lib.hid hll
  have HAT := Lib.hid hat
  have HBY := Lib.hid hbytes
  clear hl hll hat hbytes
  go_enter Tryz.func46, Tryz.ntmps46
  go_upto_region 3 with (fail)
  go_cut [25] (fun v25 wc => ∃ hb : Bool, v25 = .bool hb ∧ Sgn l hb ∧ w = wc)
  case first =>
    by_cases h0 : n = 0
    · subst h0
      go_wp2_with fail
      go_meet
      case rel => exact ⟨false, rfl, .inr ⟨rfl, fun c h => by rw [List.getElem?_eq_none (by rw [HLL.out]; exact Nat.le_refl 0)] at h; cases h⟩, rfl⟩
    · have hlt : 0 < s.size := by omega
      have hc := HAT.out 0 hlt
      have hl0 : l[0]? = some (l.getD 0 0) := by rw [List.getD_eq_getElem?_getD, List.getElem?_eq_getElem (by rw [HLL.out]; omega)]; rfl
      obtain ⟨c, hcd⟩ : ∃ c, l.getD 0 0 = c := ⟨_, rfl⟩
      rw [hcd] at hc hl0
      have HL0 := Lib.hid hl0
      clear hl0 hcd
      by_cases h43 : c = 43
      · subst h43
        go_wp2_with fail
        go_meet
        case rel => exact ⟨true, rfl, .inl ⟨rfl, 43, HL0.out, .inr rfl⟩, rfl⟩
      · by_cases h45 : c = 45
        · subst h45
          go_wp2_with fail
          go_meet
          case rel => exact ⟨true, rfl, .inl ⟨rfl, 45, HL0.out, .inl rfl⟩, rfl⟩
        · have e1 : (c == 43) = false := by simpa using h43
          have e2 : (c == 45) = false := by simpa using h45
          go_wp2_with fail
          go_meet
          case rel => exact ⟨false, rfl, .inr ⟨rfl, fun c' h => by rw [HL0.out] at h; injection h with h; subst h; exact ⟨h45, h43⟩⟩, rfl⟩
  case rest =>
    obtain ⟨hb, rfl, hsg, rfl⟩ := hcut
    go_upto_if 25 with (fail)
    go_cut [3, 6] (fun v3 v6 wc => ∃ i, i ≤ 1 ∧ i ≤ n ∧ v3 = .string (strOfNums (signOf l).1) ∧ v6 = .int .i64 (i : Nat) ∧ (signOf l).2 = l.drop i ∧ w = wc)
    case first =>
      rcases hsg with ⟨rfl, c, hl0, hcc⟩ | ⟨rfl, hno⟩
      · have hn1 : 0 < s.size := by
          have := (List.getElem?_eq_some_iff.1 hl0).1
          rw [HLL.out] at this
          omega
        have hc := HAT.out 0 hn1
        rw [List.getD_eq_getElem?_getD, hl0, Option.getD_some] at hc
        have HL0 := Lib.hid hl0
        clear hl0
        rcases hcc with rfl | rfl
        · go_wp2_with fail
          go_meet
          case rel =>
            obtain ⟨r, hr⟩ := cons_of_first HL0.out
            exact ⟨1, by omega, by omega, by rw [hr]; rfl, rfl, by rw [hr]; rfl, rfl⟩
        · go_wp2_with fail
          go_meet
          case rel =>
            obtain ⟨r, hr⟩ := cons_of_first HL0.out
            exact ⟨1, by omega, by omega, by rw [hr]; rfl, rfl, by rw [hr]; rfl, rfl⟩
      · go_wp2_with fail
        go_meet
        case rel =>
          have e : signOf l = ([], l) := by
            cases hl : l with
            | nil => rfl
            | cons c r =>
              obtain ⟨h1, h2⟩ := hno c (by rw [hl]; rfl)
              simp [signOf, h1, h2]
          exact ⟨0, by omega, by omega, by rw [e]; rfl, rfl, by rw [e]; rfl, rfl⟩
    case rest =>
      clear hsg
      obtain ⟨i, hi1, hin, rfl, rfl, hsd, rfl⟩ := hcut
      obtain ⟨R, hR⟩ : ∃ R, mant (signOf l).2 ([], 0, false) = R := ⟨_, rfl⟩
      rw [hsd] at hR
      have HR := Lib.hid hR
      have HSD := Lib.hid hsd
      clear hsd hR
      go_upto_block 0 with (fail)
      go_cut [4, 5, 6, 7] (fun v4 v5 v6 v7 wc => ∃ (k : Nat) (D : List Int) (p : Int) (b : Bool), k ≤ n ∧ v6 = .int .i64 (k : Nat) ∧ v4 = .string (strOfNums D) ∧ v5 = .int .i64 p ∧ v7 = .bool b ∧ D.length ≤ n ∧ -n ≤ p ∧ p ≤ 0 ∧ (∀ x ∈ D, byteN x) ∧ R = ((D, p), l.drop k) ∧ w = wc)
      case first =>
        go_wp2_with fail
        go_loopw [4, 5, 6, 7] (fun v4 v5 v6 v7 wr => ∃ (k : Nat) (D : List Int) (p : Int) (b : Bool), k ≤ n ∧ v6 = .int .i64 (k : Nat) ∧ v4 = .string (strOfNums D) ∧ v5 = .int .i64 p ∧ v7 = .bool b ∧ D.length ≤ k ∧ -k ≤ p ∧ p ≤ 0 ∧ (∀ x ∈ D, byteN x) ∧ mant (l.drop k) (D, p, b) = R ∧ w = wr) (fun _ _ v6 _ _ => n - (intOf v6).toNat)
        case atStart => exact ⟨i, [], 0, false, hin, rfl, rfl, rfl, rfl, by simp, by omega, by omega, fun _ h => absurd h (by simp), HR.out, rfl⟩
        case round =>
          obtain ⟨k, D, p, b, hk, rfl, rfl, rfl, rfl, hDl, hp0, hp1, hDb, hm, rfl⟩ := hrel
          have hsz : (strOfNums D).size ≤ 100000 := by rw [strOfNums_size]; omega
          have HM := Lib.hid hm
          have HDB := Lib.hid hDb
          clear hm hDb
          by_cases hlt : k < n
          · have hlt' : k < s.size := by omega
            have hc := HAT.out k hlt'
            have hdr := drop_get (l := l) (k := k) (by rw [HLL.out]; exact hlt)
            have hcb : byteN (l.getD k 0) := HBY.out _ (getD_mem (by rw [HLL.out]; exact hlt))
            have hex := extract_one (s := s) (k := k) hlt'
            rw [HL.out] at hex
            obtain ⟨c, hcd⟩ : ∃ c, l.getD k 0 = c := ⟨_, rfl⟩
            rw [hcd] at hc hdr hcb hex
            have HDR := Lib.hid hdr
            have HC := Lib.hid hcd
            have HCB := Lib.hid hcb
            clear hdr hcd hcb
            by_cases he : c = 101
            · subst he
              go_wp2_with fail
              go_meet
              case rel => exact ⟨k, D, p, b, hk, rfl, rfl, rfl, rfl, by omega, by omega, by omega, HDB.out, by rw [← HM.out, HDR.out]; simp [mant], (by first | rfl | trivial)⟩
            · by_cases hE : c = 69
              · subst hE
                go_wp2_with fail
                go_meet
                case rel => exact ⟨k, D, p, b, hk, rfl, rfl, rfl, rfl, by omega, by omega, by omega, HDB.out, by rw [← HM.out, HDR.out]; simp [mant], (by first | rfl | trivial)⟩
              · have e1 : (c != 101) = true := by simpa using he
                have e2 : (c != 69) = true := by simpa using hE
                by_cases hd : c = 46
                · subst hd
                  go_wp2_with fail
                  go_roundw
                  case rel =>
                    refine ⟨k + 1, D, p, true, by omega, by go_num, rfl, rfl, rfl, by omega, by omega, by omega, HDB.out, ?_, (by first | rfl | trivial)⟩
                    rw [← HM.out, HDR.out]
                    simp [mant]
                  case measure => simp [intOf]; omega
                · have e3 : (c == 46) = false := by simpa using hd
                  have hs1 : (strOfNums [c]).size = 1 := rfl
                  have hmem : ∀ x ∈ D ++ [c], byteN x := by
                    intro x hx
                    rcases List.mem_append.1 hx with hx | hx
                    · exact HDB.out x hx
                    · simp at hx; rw [hx]; exact HCB.out
                  have HME := Lib.hid hmem
                  clear hmem
                  cases b with
                  | true =>
                    go_wp2_with fail
                    go_roundw
                    case rel =>
                      refine ⟨k + 1, D ++ [c], p - 1, true, by omega, by go_num, by rw [str_append], rfl, rfl, by simp; omega, by omega, by omega, HME.out, ?_, (by first | rfl | trivial)⟩
                      rw [← HM.out, HDR.out]
                      simp [mant, he, hE, hd]
                    case measure => simp [intOf]; omega
                  | false =>
                    go_wp2_with fail
                    go_roundw
                    case rel =>
                      refine ⟨k + 1, D ++ [c], p, false, by omega, by go_num, by rw [str_append], rfl, rfl, by simp; omega, by omega, by omega, HME.out, ?_, (by first | rfl | trivial)⟩
                      rw [← HM.out, HDR.out]
                      simp [mant, he, hE, hd]
                    case measure => simp [intOf]; omega
          · have hkn : k = n := by omega
            subst hkn
            go_wp2_with fail
            go_meet
            case rel =>
              refine ⟨k, D, p, b, hk, rfl, rfl, rfl, rfl, by omega, by omega, by omega, HDB.out, ?_, (by first | rfl | trivial)⟩
              have hz : l.drop k = [] := List.drop_eq_nil_of_le (by rw [HLL.out]; exact Nat.le_refl _)
              rw [← HM.out, hz]
              rfl
      case rest =>
        obtain ⟨k, D, p, b, hk, rfl, rfl, rfl, rfl, hDl, hp0, hp1, hDb, hRR, rfl⟩ := hcut
        have HDB := Lib.hid hDb
        have HRR := Lib.hid hRR
        clear hDb hRR
        obtain ⟨P, hP⟩ : ∃ P, power R = P := ⟨_, rfl⟩
        have hP2 := hP
        rw [HRR.out] at hP2
        have HP := Lib.hid hP
        have HP2 := Lib.hid hP2
        clear hP hP2
        go_upto_if 67 with (fail)
        go_cut [5] (fun v5 wc => v5 = .int .i64 P ∧ -20000000 ≤ P ∧ P ≤ 20000000 ∧ w = wc)
        case first =>
          by_cases hlt : k < n
          · have hdr := drop_get (l := l) (k := k) (by rw [HLL.out]; exact hlt)
            have hpw : P = p + (if (expo (l.drop (k + 1)) (0, false)).2 = true then -(expo (l.drop (k + 1)) (0, false)).1 else (expo (l.drop (k + 1)) (0, false)).1) := by
              rw [← HP2.out, hdr]
              rfl
            obtain ⟨E, hE⟩ : ∃ E, expo (l.drop (k + 1)) (0, false) = E := ⟨_, rfl⟩
            rw [hE] at hpw
            have HE := Lib.hid hE
            have HPW := Lib.hid hpw
            clear hE hpw hdr
            rw [decide_eq_true hlt]
            go_wp2_with fail
            go_loopw [6, 8, 9] (fun v6 v8 v9 wr => ∃ (i : Nat) (e : Int) (m : Bool), i ≤ n ∧ v6 = .int .i64 (i : Nat) ∧ v8 = .int .i64 e ∧ v9 = .bool m ∧ 0 ≤ e ∧ e ≤ 10000000 ∧ expo (l.drop i) (e, m) = E ∧ w = wr) (fun v6 _ _ _ => n - (intOf v6).toNat)
            case atStart => exact ⟨k + 1, 0, false, by omega, by go_num, rfl, rfl, by omega, by omega, HE.out, (by first | rfl | trivial)⟩
            case round =>
              obtain ⟨i, e, m, hi, rfl, rfl, rfl, he0, he1, hm, rfl⟩ := hrel
              have HM := Lib.hid hm
              clear hm
              by_cases hlt2 : i < n
              · have hlt' : i < s.size := by omega
                have hc := HAT.out i hlt'
                have hdr := drop_get (l := l) (k := i) (by rw [HLL.out]; exact hlt2)
                have hcb : byteN (l.getD i 0) := HBY.out _ (getD_mem (by rw [HLL.out]; exact hlt2))
                obtain ⟨c, hcd⟩ : ∃ c, l.getD i 0 = c := ⟨_, rfl⟩
                rw [hcd] at hc hdr hcb
                have HDR := Lib.hid hdr
                have hc0 := hcb.1
                have hc1 := hcb.2
                clear hdr hcd hcb
                by_cases hmin : c = 45
                · subst hmin
                  go_wp2_with fail
                  go_roundw
                  case rel =>
                    refine ⟨i + 1, e, true, by omega, by go_num, rfl, rfl, he0, he1, ?_, (by first | rfl | trivial)⟩
                    rw [← HM.out, HDR.out]
                    simp [expo]
                  case measure => simp [intOf]; omega
                · have e1 : (c == 45) = false := by simpa using hmin
                  by_cases hdg : 48 ≤ c ∧ c ≤ 57
                  · by_cases hsm : e < 1000000
                    · go_wp2_with fail
                      refine (isDigit_yes c _ hdg).mono ?_
                      rintro e' w1 ⟨rfl, rfl⟩
                      obtain ⟨d0, d1⟩ := hdg
                      go_wp2_with fail
                      go_roundw
                      case rel =>
                        refine ⟨i + 1, e * 10 + (c - 48), m, by omega, by go_num, rfl, rfl, by omega, by omega, ?_, (by first | rfl | trivial)⟩
                        rw [← HM.out, HDR.out, expo, if_neg hmin, if_pos ⟨⟨d0, d1⟩, hsm⟩]
                      case measure => simp [intOf]; omega
                    · go_wp2_with fail
                      refine (isDigit_yes c _ hdg).mono ?_
                      rintro e' w1 ⟨rfl, rfl⟩
                      obtain ⟨d0, d1⟩ := hdg
                      go_wp2_with fail
                      go_roundw
                      case rel =>
                        refine ⟨i + 1, e, m, by omega, by go_num, rfl, rfl, by omega, by omega, ?_, (by first | rfl | trivial)⟩
                        rw [← HM.out, HDR.out, expo, if_neg hmin, if_neg (fun hh => by have := hh.2; omega)]
                      case measure => simp [intOf]; omega
                  · go_wp2_with fail
                    refine (isDigit_no c _ hdg).mono ?_
                    rintro e' w1 ⟨rfl, rfl⟩
                    go_wp2_with fail
                    go_roundw
                    case rel =>
                      refine ⟨i + 1, e, m, by omega, by go_num, rfl, rfl, by omega, by omega, ?_, (by first | rfl | trivial)⟩
                      rw [← HM.out, HDR.out, expo, if_neg hmin, if_neg (fun hh => hdg hh.1)]
                    case measure => simp [intOf]; omega
              · have hin : i = n := by omega
                subst hin
                have hz : l.drop i = [] := List.drop_eq_nil_of_le (by rw [HLL.out]; exact Nat.le_refl _)
                have hem : E = (e, m) := by rw [← HM.out, hz]; rfl
                have hP3 : P = p + (if m = true then -e else e) := by rw [HPW.out, hem]
                have HP3 := Lib.hid hP3
                clear hz hem hP3
                cases m with
                | true =>
                  go_wp2_with fail
                  go_meet
                  case rel =>
                    have := HP3.out
                    simp only [if_true] at this
                    exact ⟨by rw [this], by omega, by omega, (by first | rfl | trivial)⟩
                | false =>
                  go_wp2_with fail
                  go_meet
                  case rel =>
                    have := HP3.out
                    simp at this
                    exact ⟨by rw [this], by omega, by omega, (by first | rfl | trivial)⟩
          · have hkn : k = n := by omega
            subst hkn
            have hz : l.drop k = [] := List.drop_eq_nil_of_le (by rw [HLL.out]; exact Nat.le_refl _)
            have hpw : P = p := by rw [← HP2.out, hz]; rfl
            have HPW := Lib.hid hpw
            clear hz hpw
            go_wp2_with fail
            go_meet
            case rel =>
              have := HPW.out
              exact ⟨by rw [this], by omega, by omega, (by first | rfl | trivial)⟩
        case rest =>
          obtain ⟨rfl, hP0, hP1, rfl⟩ := hcut
          obtain ⟨Z, hZ⟩ : ∃ Z, dropZ D = Z := ⟨_, rfl⟩
          obtain ⟨T, hT⟩ : ∃ T, tailZ Z.reverse P = T := ⟨_, rfl⟩
          have hval : valL l = if T.1.reverse = [] then [48] else (signOf l).1 ++ T.1.reverse ++ [101] ++ wholeL T.2 := by
            have e1 : parts l = ((signOf l).1, T.1.reverse, T.2) := by
              unfold parts
              simp only
              rw [HSD.out, HR.out, HP.out, HRR.out]
              simp only
              rw [hZ, hT]
            unfold valL
            rw [e1]
          have hsg1 : (strOfNums (signOf l).1).size ≤ 1 := by
            rw [strOfNums_size]
            unfold signOf
            split
            · split
              · simp
              · split <;> simp
            · simp
          have HZ := Lib.hid hZ
          have HT := Lib.hid hT
          have HV := Lib.hid hval
          clear hZ hT hval
          have hZl : Z.length ≤ n := by rw [← HZ.out]; exact Nat.le_trans (dropZ_len D) hDl
          have hZb : ∀ x ∈ Z, byteN x := by rw [← HZ.out]; exact fun x hx => HDB.out x (dropZ_mem D x hx)
          have HZB := Lib.hid hZb
          clear hZb
          go_upto_block 5 with (fail)
          go_cut [4] (fun v4 wc => v4 = .string (strOfNums Z) ∧ w = wc)
          case first =>
            go_wp2_with fail
            go_loopw [4] (fun v4 wr => ∃ X, v4 = .string (strOfNums X) ∧ X.length ≤ n ∧ (∀ x ∈ X, byteN x) ∧ dropZ X = Z ∧ w = wr) (fun v4 _ => (strOf v4).size)
            case atStart => exact ⟨D, rfl, hDl, HDB.out, HZ.out, (by first | rfl | trivial)⟩
            case round =>
              obtain ⟨X, rfl, hX, hXb, hXZ, rfl⟩ := hrel
              cases X with
              | nil =>
                have hz0 : (strOfNums []).toList = [] := str_nil
                have HXZ := Lib.hid hXZ
                clear hXb hXZ
                go_wp2_with fail
                go_meet
                case rel => exact ⟨by rw [← HXZ.out]; rfl, (by first | rfl | trivial)⟩
              | cons c r =>
                have hne := str_cons c r
                have hne2 : (!(strOfNums (c :: r)).toList.isEmpty) = true := by simpa using hne
                have hsz : (strOfNums (c :: r)).size = r.length + 1 := by rw [strOfNums_size]; rfl
                have hlt : 0 < (strOfNums (c :: r)).size := by omega
                have hc : (((strOfNums (c :: r))[0]'hlt).toNat : Int) = c := str_get 0 hlt hXb
                have hex : (strOfNums (c :: r)).extract 1 (r.length + 1) = strOfNums r := by rw [str_extract]; simp
                have hrb : ∀ x ∈ r, byteN x := fun x hx => hXb x (by simp [hx])
                have HRB := Lib.hid hrb
                have HXZ := Lib.hid hXZ
                clear hXb hXZ hrb
                by_cases h48 : c = 48
                · subst h48
                  go_wp2_with fail
                  go_roundw
                  case rel => exact ⟨r, rfl, by simp at hX; omega, HRB.out, by rw [← HXZ.out]; simp [dropZ], (by first | rfl | trivial)⟩
                  case measure => simp only [strOf]; rw [strOfNums_size, hsz]; omega
                · have e1 : (c == 48) = false := by simpa using h48
                  go_wp2_with fail
                  go_meet
                  case rel => exact ⟨by rw [← HXZ.out]; simp [dropZ, h48], (by first | rfl | trivial)⟩
          case rest =>
            obtain ⟨rfl, rfl⟩ := hcut
            go_wp2_with fail
            go_loopw [4, 5] (fun v4 v5 wr => ∃ (Y : List Int) (q : Int), v4 = .string (strOfNums Y.reverse) ∧ v5 = .int .i64 q ∧ Y.length ≤ n ∧ -20000000 ≤ q ∧ q + Y.length ≤ 20000000 + n ∧ (∀ x ∈ Y, byteN x) ∧ tailZ Y q = T ∧ w = wr) (fun v4 _ _ => (strOf v4).size)
            case atStart => exact ⟨Z.reverse, P, by rw [List.reverse_reverse], rfl, by simpa using hZl, hP0, by rw [List.length_reverse]; omega, fun x hx => HZB.out x (by simpa using hx), HT.out, (by first | rfl | trivial)⟩
            case round =>
              obtain ⟨Y, q, rfl, rfl, hY, hq0, hq1, hYb, hYT, rfl⟩ := hrel
              cases Y with
              | nil =>
                have hz0 : (strOfNums ([] : List Int).reverse).toList = [] := str_nil
                have hfin : valL l = [48] := by rw [HV.out, ← hYT]; rfl
                have HF := Lib.hid hfin
                clear hYb hYT hfin
                go_wp2_with fail
                go_ret
                exact ⟨by rw [HL.out, HF.out]; rfl, Below.refl _ _⟩
              | cons c r =>
                have hsz0 : (strOfNums (c :: r).reverse).size = r.length + 1 := by rw [strOfNums_size, List.length_reverse]; rfl
                have hlt0 : r.length < (strOfNums (c :: r).reverse).size := by omega
                have hcr := str_get (xs := (c :: r).reverse) r.length hlt0 (fun x hx => hYb x (List.mem_reverse.1 hx))
                have hrv : (c :: r).reverse.getD r.length 0 = c := by rw [List.reverse_cons, List.getD_eq_getElem?_getD, List.getElem?_append_right (by simp)]; simp
                rw [hrv] at hcr
                have hex : (strOfNums (c :: r).reverse).extract 0 r.length = strOfNums r.reverse := by
                  rw [str_extract, List.drop_zero, List.reverse_cons, List.take_append_of_le_length (by simp), List.take_of_length_le (by simp)]
                have hne : ¬ (strOfNums (c :: r).reverse).toList = [] := by
                  cases hh : (c :: r).reverse with
                  | nil => simp at hh
                  | cons a t => exact str_cons a t
                obtain ⟨S, hS⟩ : ∃ S, strOfNums (c :: r).reverse = S := ⟨_, rfl⟩
                have hlt : r.length < S.size := by rw [← hS]; exact hlt0
                have hc : ((S[r.length]'hlt).toNat : Int) = c := by subst hS; exact hcr
                rw [hS] at hsz0 hex hne ⊢
                have hne2 : (!S.toList.isEmpty) = true := by simpa using hne
                have hne3 : (S.toList == ([] : List UInt8)) = false := beq_eq_false_iff_ne.mpr hne
                have hne4 : S.toList.isEmpty = false := by simpa using hne
                have hrb : ∀ x ∈ r, byteN x := fun x hx => hYb x (by simp [hx])
                have hrl : r.length + 1 ≤ n := hY
                have HRB := Lib.hid hrb
                have HYT := Lib.hid hYT
                have HS := Lib.hid hS
                clear hYb hYT hrb hcr hrv hlt0 hY hS
                by_cases h48 : c = 48
                · subst h48
                  go_wp2_with fail
                  go_roundw
                  case rel => exact ⟨r, q + 1, rfl, rfl, by omega, by omega, by simp at hq1; omega, HRB.out, by rw [← HYT.out]; simp [tailZ], (by first | rfl | trivial)⟩
                  case measure => simp only [strOf]; rw [strOfNums_size, List.length_reverse, hsz0]; omega
                · have e1 : (c == 48) = false := by simpa using h48
                  have hTT : T = (c :: r, q) := by rw [← HYT.out]; simp [tailZ, h48]
                  have hfin : valL l = (signOf l).1 ++ (c :: r).reverse ++ [101] ++ wholeL q := by rw [HV.out, hTT, if_neg (by simp)]
                  have hsw : (strOfNums (wholeL q)).size ≤ 100 := by rw [strOfNums_size]; exact wholeL_len q (by simp at hq1; omega) (by simp at hq1; omega)
                  have HF := Lib.hid hfin
                  have hq2 : q ≤ 20100000 := by simp at hq1; omega
                  clear hTT hfin hq1
                  go_wp2_with fail
                  refine (whole_any q _ (by omega) (by omega)).mono ?_
                  rintro e w1 ⟨rfl, hb⟩
                  have HBE := Lib.hid hb
                  clear hb
                  go_wp2_with fail
                  go_ret
                  refine ⟨?_, HBE.out⟩
                  rw [HL.out, HF.out, str_append, str_append, str_append, HS.out]
                  rfl

end Go.Proofs.YthoekplablhgfaaGreatDoor
