/-
  Numbers at an offset: the contracts of the integers, and the plain words.
-/
import Derived.Test.YthoekplablhgfaaGreatDoorMText
import Derived.IntWalk
import Derived.Deep.DeepCutAuto
import Derived.Deep.CutBlock
import Derived.Laws.CopyOwn
import Derived.Deep.RegionLaw
import Derived.Test.YthoekplablhgfaaGreatDoorMValue

/- OInt -/
namespace Go.Proofs.YthoekplablhgfaaGreatDoor
open Go.RowKit
set_option linter.unusedVariables false

/-- How many digits a number below 1000 has. -/
def dl (x : Int) : Int := if x < 10 then 1 else if x < 100 then 2 else 3
/-- With its sign. -/
def li (x : Int) : Int := if x < 0 then 1 + dl (-x) else dl x
theorem LenUint_at (x : Int) (w : World) (h0 : 0 ≤ x) (h1 : x < 1000) :
    Calls Tryz.prog 73 #[.int .u64 x] w fun e w' => e = .returned (.int .i64 (dl x)) ∧ w = w' := by
  by_cases k1 : x < 10
  · have hl : dl x = 1 := by unfold dl; rw [if_pos k1]
    rw [hl]
    clear hl
    go_enter Tryz.func73, Tryz.ntmps73
    go_wp2
    go_ret
    exact ⟨rfl, rfl⟩
  · by_cases k2 : x < 100
    · have hl : dl x = 2 := by unfold dl; rw [if_neg k1, if_pos k2]
      rw [hl]
      clear hl
      go_enter Tryz.func73, Tryz.ntmps73
      go_wp2
      go_ret
      exact ⟨rfl, rfl⟩
    · have hl : dl x = 3 := by unfold dl; rw [if_neg k1, if_neg k2]
      rw [hl]
      clear hl
      go_enter Tryz.func73, Tryz.ntmps73
      go_wp2
      go_ret
      exact ⟨rfl, rfl⟩
theorem LenInt_at (x : Int) (w : World) (h0 : -1000 < x) (h1 : x < 1000) :
    Calls Tryz.prog 62 #[.int .i64 x] w fun e w' => e = .returned (.int .i64 (li x)) ∧ w = w' := by
  by_cases k1 : x < 0
  · have e1 : (x == -9223372036854775808) = false := by simp; omega
    have e2 : IntKind.i64.wrap (-x) = -x := IntWalk.i64_in _ (by omega)
    have e3 : 1 ≤ dl (-x) ∧ dl (-x) ≤ 3 := by unfold dl; split <;> (try split) <;> omega
    obtain ⟨v, hv⟩ : ∃ v, dl (-x) = v := ⟨_, rfl⟩
    have hc := fun w => LenUint_at (-x) w (by omega) (by omega)
    have hl : li x = 1 + v := by unfold li; rw [if_pos k1, hv]
    rw [hl]
    rw [hv] at e3
    simp only [hv] at hc
    clear hl hv
    obtain ⟨g0, g1⟩ := e3
    go_enter Tryz.func62, Tryz.ntmps62
    go_wp2_with fail
    refine (hc _).mono ?_
    rintro e w1 ⟨rfl, rfl⟩
    go_wp2_with fail
    go_ret
    exact ⟨rfl, rfl⟩
  · have hc := fun w => LenUint_at x w (by omega) (by omega)
    have hl : li x = dl x := by unfold li; rw [if_neg k1]
    rw [hl]
    go_enter Tryz.func62, Tryz.ntmps62
    go_wp2_with fail
    refine (hc _).mono ?_
    rintro e w1 ⟨rfl, rfl⟩
    go_wp2_with fail
    go_ret
    exact ⟨rfl, rfl⟩

/-- The number that k digits tell, from place p on. -/
def natAt (xs : List Int) (p : Nat) : Nat → Int
  | 0 => 0
  | k + 1 => natAt xs p k * 10 + (xs.getD (p + k) 0 - 48)
theorem natAt_bound {xs : List Int} {p m : Nat} (hm : m ≤ 3) (hd : ∀ k, p ≤ k → k < p + m → 48 ≤ xs.getD k 0 ∧ xs.getD k 0 ≤ 57) : ∀ k, k ≤ m → 0 ≤ natAt xs p k ∧ natAt xs p k < (if k = 0 then 1 else if k = 1 then 10 else if k = 2 then 100 else 1000) := by
  have step : ∀ k, k < m → 0 ≤ xs.getD (p + k) 0 - 48 ∧ xs.getD (p + k) 0 - 48 ≤ 9 := fun k hk => by have := hd (p + k) (by omega) (by omega); omega
  intro k hk
  have h : k = 0 ∨ k = 1 ∨ k = 2 ∨ k = 3 := by omega
  rcases h with rfl | rfl | rfl | rfl
  · simp [natAt]
  · have := step 0 (by omega); simp only [natAt]; omega
  · have := step 0 (by omega); have := step 1 (by omega); simp only [natAt]; omega
  · have := step 0 (by omega); have := step 1 (by omega); have := step 2 (by omega); simp only [natAt]; omega

set_option maxRecDepth 100000 in
set_option maxHeartbeats 1600000 in
theorem ParseInt_at (h p cap n q m : Nat) (xs : List Int) (tail : List Value) (w : World) (hb : Buf w h xs tail) (hl : xs.length = p + n) (hcap : n ≤ cap) (hn : n = q + m) (hq : q ≤ 1) (hq1 : q = 1 → xs.getD p 0 = 45) (hm0 : 1 ≤ m) (hm1 : m ≤ 3) (hd : ∀ k, p + q ≤ k → k < p + q + m → 48 ≤ xs.getD k 0 ∧ xs.getD k 0 ≤ 57) :
    Calls Tryz.prog 61 #[.slice (some ⟨h, p, none⟩) n cap] w fun e w' => e = .returned (.tuple #[.int .i64 (if q = 1 then -natAt xs (p + q) m else natAt xs (p + q) m), .int .i64 n]) ∧ w = w' := by
  have hcell : ∀ k, k < n → w.cell? ⟨h, p + k, none⟩ = some (.int .u8 (xs.getD (p + k) 0)) := fun k hk => hb.cell (p + k) (by omega)
  have hbd := natAt_bound hm1 hd
  have HC := Lib.hid hcell
  have HD := Lib.hid hd
  have HQ := Lib.hid hq1
  have HBD := Lib.hid hbd
  have c0 := hcell 0 (by omega)
  have hnn : (0 : Int) < (n : Int) := by omega
  have hn1 : n ≤ 4 := by omega
  clear hcell hd hq1 hbd hb
  rw [Nat.add_zero] at c0
  obtain ⟨c, hc⟩ : ∃ c, xs.getD p 0 = c := ⟨_, rfl⟩
  rw [hc] at c0
  have hqq : q = 0 ∨ q = 1 := by omega
  obtain ⟨V, hV⟩ : ∃ V, (if q = 1 then -natAt xs (p + q) m else natAt xs (p + q) m) = V := ⟨_, rfl⟩
  rw [hV]
  have HV := Lib.hid hV
  obtain ⟨nb, hnb⟩ : ∃ nb, decide (q = 1) = nb := ⟨_, rfl⟩
  have HNB := Lib.hid hnb
  clear hnb
  have HL := Lib.hid hl
  have HN := Lib.hid hn
  clear hV hl hn
  go_enter Tryz.func61, Tryz.ntmps61
  go_upto_region 3 with (fail)
  go_cut [23] (fun v23 wc => v23 = .bool nb ∧ w = wc)
  case first =>
    as_aux_lemma =>
      rcases hqq with rfl | rfl
      · have hd0 := HD.out p (by omega) (by have := HN.out; omega)
        rw [hc] at hd0
        have e1 : (c == 43) = false := by simp; omega
        have e2 : (c == 45) = false := by simp; omega
        have hnb : nb = false := HNB.out.symm
        have H2 := Lib.hid hnb
        clear hc hd0 hnb
        go_wp2_with fail
        go_meet
        case rel => exact ⟨by rw [H2.out], rfl⟩
      · have h45 := HQ.out rfl
        rw [hc] at h45
        subst h45
        have hnb : nb = true := HNB.out.symm
        have H2 := Lib.hid hnb
        clear hc hnb
        go_wp2_with fail
        go_meet
        case rel => exact ⟨by rw [H2.out], rfl⟩
  case rest =>
    obtain ⟨rfl, rfl⟩ := hcut
    go_upto_if 23 with (fail)
    go_cut [4, 5] (fun v4 v5 wc => v4 = .int .i64 (q : Nat) ∧ v5 = .bool nb ∧ w = wc)
    case first =>
      as_aux_lemma =>
        rcases hqq with rfl | rfl
        · obtain rfl : nb = false := HNB.out.symm
          clear hc
          go_wp2_with fail
          go_meet
          case rel => exact ⟨rfl, rfl, rfl⟩
        · have h45 := HQ.out rfl
          rw [hc] at h45
          subst h45
          obtain rfl : nb = true := HNB.out.symm
          clear hc
          go_wp2_with fail
          go_meet
          case rel => exact ⟨rfl, rfl, rfl⟩
    case rest =>
      obtain ⟨rfl, rfl, rfl⟩ := hcut
      clear hc c0
      have hqn : q ≤ n := by have := HN.out; omega
      go_upto_block 0 with (fail)
      go_cut [4, 7] (fun v4 v7 wc => v4 = .int .i64 (n : Nat) ∧ v7 = .int .u64 (natAt xs (p + q) m) ∧ w = wc)
      case first =>
        as_aux_lemma =>
          go_wp2_with fail
          go_loopw [4, 7] (fun v4 v7 wr => ∃ k : Nat, k ≤ m ∧ v4 = .int .i64 (q + k : Nat) ∧ v7 = .int .u64 (natAt xs (p + q) k) ∧ w = wr) (fun v4 _ _ => n - (intOf v4).toNat)
          case atStart => exact ⟨0, by omega, rfl, rfl, (by first | rfl | trivial)⟩
          case round =>
            obtain ⟨k, hk, rfl, rfl, rfl⟩ := hrel
            have hn' := HN.out
            by_cases hlt : k < m
            · have c1 := HC.out (q + k) (by omega)
              have hdd := HD.out (p + (q + k)) (by omega) (by omega)
              have hb0 := HBD.out k (by omega)
              have hb1 := HBD.out (k + 1) (by omega)
              have hnx : natAt xs (p + q) (k + 1) = natAt xs (p + q) k * 10 + (xs.getD (p + (q + k)) 0 - 48) := by rw [natAt, Nat.add_assoc p q k]
              obtain ⟨d, hdd'⟩ : ∃ d, xs.getD (p + (q + k)) 0 = d := ⟨_, rfl⟩
              obtain ⟨u, hu⟩ : ∃ u, natAt xs (p + q) k = u := ⟨_, rfl⟩
              rw [hdd'] at c1 hdd hnx
              rw [hu] at hb0 hnx ⊢
              obtain ⟨d0, d1⟩ := hdd
              have u0 := hb0.1
              have u1 : u < 1000 := by have := hb0.2; split at this <;> (try split at this) <;> (try split at this) <;> omega
              have hi : ((q + k : Nat) : Int) < (n : Int) := by omega
              have HNX := Lib.hid hnx
              have w1 : IntKind.u8.wrap (d - 48) = d - 48 := IntWalk.u8_in _ (by omega)
              clear hb0 hb1 hnx hdd' hu hn'
              go_wp2_with fail
              go_roundw
              case rel => exact ⟨k + 1, by omega, by go_num, by rw [HNX.out], (by first | rfl | trivial)⟩
              case measure => simp [intOf]; omega
            · have hkm : k = m := by omega
              subst hkm
              have hi : ¬ ((q + k : Nat) : Int) < (n : Int) := by omega
              have hqk : (n : Int) = (q : Int) + (k : Int) := by omega
              have HQK := Lib.hid hqk
              clear hqk hn'
              go_wp2_with fail
              go_meet
              case rel => exact ⟨by rw [HQK.out], rfl, (by first | rfl | trivial)⟩
      case rest =>
        obtain ⟨rfl, rfl, rfl⟩ := hcut
        have hb1 := HBD.out m (by omega)
        obtain ⟨u, hu⟩ : ∃ u, natAt xs (p + q) m = u := ⟨_, rfl⟩
        rw [hu] at hb1 ⊢
        have u0 := hb1.1
        have u1 : u < 1000 := by have := hb1.2; split at this <;> (try split at this) <;> (try split at this) <;> omega
        have hn' := HN.out
        have hne : ((n : Int) == (q : Int)) = false := by simp; omega
        have hv := HV.out
        rw [hu] at hv
        have w1 : IntKind.i64.wrap u = u := IntWalk.i64_in _ (by omega)
        have w2 : IntKind.i64.wrap (-u) = -u := IntWalk.i64_in _ (by omega)
        clear hb1 hu hn'
        rcases hqq with rfl | rfl
        · rw [if_neg (by omega)] at hv
          subst hv
          obtain rfl : nb = false := HNB.out.symm
          go_wp2_with fail
          go_ret2
          exact ⟨rfl, rfl⟩
        · rw [if_pos rfl] at hv
          subst hv
          obtain rfl : nb = true := HNB.out.symm
          go_wp2_with fail
          go_ret2
          exact ⟨rfl, rfl⟩

end Go.Proofs.YthoekplablhgfaaGreatDoor

/- OBuf -/
namespace Go.Proofs.YthoekplablhgfaaGreatDoor
open Go.RowKit
set_option linter.unusedVariables false

theorem size_u8 : (Tryz.prog.info? 5).map (·.size) = some 1 := by kernel_rfl
def cut (b : List Int) (s e : Nat) : List Int := (b.take e).drop s
theorem cut_length (b : List Int) (s e : Nat) (h1 : s ≤ e) (h2 : e ≤ b.length) : (cut b s e).length = e - s := by
  unfold cut; simp; omega
theorem cut_get (b : List Int) (s e i : Nat) (h2 : e ≤ b.length) : (cut b s e)[i]? = if s + i < e then b[s + i]? else none := by
  unfold cut
  rw [List.getElem?_drop, List.getElem?_take]
theorem splice_get (L cs : List Int) (o i : Nat) (h : o + cs.length ≤ L.length) : (Go.splice L o cs)[i]? = if o ≤ i ∧ i < o + cs.length then cs[i - o]? else L[i]? := by
  unfold Go.splice
  by_cases h1 : i < o
  · rw [if_neg (by omega), List.getElem?_append_left (by simp; omega), List.getElem?_take, if_pos h1]
  · rw [List.getElem?_append_right (by simp; omega)]
    simp only [List.length_take]
    rw [show min o L.length = o from by omega]
    by_cases h2 : i < o + cs.length
    · rw [if_pos (by omega), List.getElem?_append_left (by omega)]
    · rw [if_neg (by omega), List.getElem?_append_right (by omega), List.getElem?_drop]
      congr 1
      omega
/-- xs with n bytes from place s on laid to place o. -/
def moved (xs : List Int) (o s n : Nat) : List Int := Go.splice xs o (cut xs s (s + n))
theorem moved_length {xs : List Int} {o s n : Nat} (h1 : s + n ≤ xs.length) (h2 : o + n ≤ xs.length) : (moved xs o s n).length = xs.length := by
  have hc := cut_length xs s (s + n) (by omega) h1
  exact length_splice _ _ _ (by rw [hc]; omega)
theorem moved_get {xs : List Int} {o s n : Nat} (h1 : s + n ≤ xs.length) (h2 : o + n ≤ xs.length) (k : Nat) : (moved xs o s n).getD k 0 = if o ≤ k ∧ k < o + n then xs.getD (s + (k - o)) 0 else xs.getD k 0 := by
  have hc := cut_length xs s (s + n) (by omega) h1
  have e1 : s + n - s = n := by omega
  rw [e1] at hc
  unfold moved
  rw [List.getD_eq_getElem?_getD, splice_get _ _ _ _ (by rw [hc]; omega), hc]
  split
  · rw [cut_get _ _ _ _ h1, if_pos (by omega), List.getD_eq_getElem?_getD]
  · rw [List.getD_eq_getElem?_getD]
theorem set_get {xs : List Int} {i : Nat} (h : i < xs.length) (v : Int) (k : Nat) : (xs.set i v).getD k 0 = if k = i then v else xs.getD k 0 := by
  rw [List.getD_eq_getElem?_getD, List.getElem?_set]
  by_cases e : k = i
  · subst e
    rw [if_pos rfl, if_pos rfl, if_pos h]; rfl
  · rw [if_neg (fun h => e h.symm), if_neg e, List.getD_eq_getElem?_getD]
theorem Buf.src {w : World} {h : Nat} {xs : List Int} {tail : List Value} (hb : Buf w h xs tail) (s n : Nat) (hs : s + n ≤ xs.length) : ∀ j v, ((cut xs s (s + n)).map (Value.int .u8))[j]? = some v → w.cell? ((⟨h, s, none⟩ : Addr).add j) = some v := by
  intro j v hv
  rw [List.getElem?_map, cut_get _ _ _ _ hs] at hv
  split at hv
  · rename_i hj
    have ha : (⟨h, s, none⟩ : Addr).add j = ⟨h, s + j, none⟩ := by unfold Addr.add; split <;> simp_all
    rw [ha, hb.cell (s + j) (by omega), List.getD_eq_getElem?_getD]
    rw [List.getElem?_eq_getElem (by omega)] at hv ⊢
    simpa using hv
  · cases hv
theorem Buf.splice {w' : World} {h o : Nat} {xs cs : List Int} {tail : List Value} (hfit : o + cs.length ≤ xs.length) (hh : w'.heap[h]? = some (.cells (Go.splice (xs.map (Value.int .u8) ++ tail) o (cs.map (Value.int .u8))).toArray 5 (0, 0))) : Buf w' h (Go.splice xs o cs) tail := by
  unfold Buf
  rw [hh]
  congr 3
  unfold Go.splice
  rw [List.take_append_of_le_length (by simp; omega), List.length_map, List.drop_append_of_le_length (by simp; omega)]
  simp
theorem Buf.moved {w' : World} {h o s n : Nat} {xs : List Int} {tail : List Value} (h1 : s + n ≤ xs.length) (h2 : o + n ≤ xs.length) (hh : w'.heap[h]? = some (.cells (Go.splice (xs.map (Value.int .u8) ++ tail) o ((cut xs s (s + n)).map (Value.int .u8))).toArray 5 (0, 0))) : Buf w' h (moved xs o s n) tail :=
  Buf.splice (by rw [cut_length _ _ _ (by omega) h1]; omega) hh

/-- Block h holds pre, from place o on the bytes xs, and tail behind them. -/
def BufO (w : World) (h o : Nat) (pre xs : List Int) (tail : List Value) : Prop := pre.length = o ∧ Buf w h (pre ++ xs) tail
theorem getD_off {pre xs : List Int} {o : Nat} (ho : pre.length = o) (k : Nat) : (pre ++ xs).getD (o + k) 0 = xs.getD k 0 := by
  rw [List.getD_eq_getElem?_getD, List.getElem?_append_right (by omega), List.getD_eq_getElem?_getD]
  congr 2
  omega
section
variable {w : World} {h o : Nat} {pre xs : List Int} {tail : List Value}
theorem BufO.lt (hb : BufO w h o pre xs tail) : h < w.heap.size := hb.2.lt
theorem BufO.cell (hb : BufO w h o pre xs tail) (i : Nat) (hi : i < xs.length) : w.cell? ⟨h, o + i, none⟩ = some (.int .u8 (xs.getD i 0)) := by
  rw [hb.2.cell (o + i) (by rw [List.length_append, hb.1]; omega), getD_off hb.1]
theorem BufO.frozen (hb : BufO w h o pre xs tail) (i : Nat) : w.frozen? ⟨h, o + i, none⟩ = false := hb.2.frozen (o + i)
theorem BufO.set (hb : BufO w h o pre xs tail) (i : Nat) (hi : i < xs.length) (v : Int) : BufO (w.setCell ⟨h, o + i, none⟩ (.int .u8 v)) h o pre (xs.set i v) tail := by
  refine ⟨hb.1, ?_⟩
  have h1 := hb.2.set (o + i) (by rw [List.length_append, hb.1]; omega) v
  rw [List.set_append_right _ _ (by rw [hb.1]; omega), hb.1, Nat.add_sub_cancel_left] at h1
  exact h1
theorem cut_off (pre xs : List Int) (s n : Nat) (ho : pre.length = o) : cut (pre ++ xs) (o + s) (o + s + n) = cut xs s (s + n) := by
  unfold cut
  rw [show o + s + n = o + (s + n) from by omega, ← ho, List.take_append, List.take_of_length_le (by omega), Nat.add_sub_cancel_left, List.drop_append, List.drop_eq_nil_of_le (by omega), Nat.add_sub_cancel_left, List.nil_append]
theorem BufO.src (hb : BufO w h o pre xs tail) (s n : Nat) (hs : s + n ≤ xs.length) : ∀ j v, ((cut xs s (s + n)).map (Value.int .u8))[j]? = some v → w.cell? ((⟨h, o + s, none⟩ : Addr).add j) = some v := by
  have h1 := hb.2.src (o + s) n (by rw [List.length_append, hb.1]; omega)
  rw [cut_off pre xs s n hb.1] at h1
  exact h1
theorem splice_off (pre xs cs : List Int) (d : Nat) (ho : pre.length = o) : Go.splice (pre ++ xs) (o + d) cs = pre ++ Go.splice xs d cs := by
  unfold Go.splice
  rw [List.take_append, List.take_of_length_le (by omega), show o + d - pre.length = d from by omega, show o + d + cs.length = pre.length + (d + cs.length) from by omega, List.drop_append, List.drop_eq_nil_of_le (by omega), Nat.add_sub_cancel_left, List.nil_append, List.append_assoc]
theorem BufO.moved {w' : World} {d s n : Nat} (ho : pre.length = o) (h1 : s + n ≤ xs.length) (h2 : d + n ≤ xs.length) (hh : w'.heap[h]? = some (.cells (Go.splice ((pre ++ xs).map (Value.int .u8) ++ tail) (o + d) ((cut xs s (s + n)).map (Value.int .u8))).toArray 5 (0, 0))) : BufO w' h o pre (Go.Proofs.YthoekplablhgfaaGreatDoor.moved xs d s n) tail := by
  refine ⟨ho, ?_⟩
  have h3 := Buf.splice (xs := pre ++ xs) (cs := cut xs s (s + n)) (o := o + d) (by rw [List.length_append, ho, cut_length _ _ _ (by omega) h1]; omega) hh
  rw [splice_off _ _ _ _ ho] at h3
  exact h3
end
theorem natAt_off {o : Nat} {pre xs : List Int} (ho : pre.length = o) (p : Nat) : ∀ m, natAt (pre ++ xs) (o + p) m = natAt xs p m
  | 0 => rfl
  | m + 1 => by
    simp only [natAt]
    rw [natAt_off ho p m, show o + p + m = o + (p + m) from by omega, getD_off ho]
theorem ParseInt_off (h o p cap n q m : Nat) (pre xs : List Int) (tail : List Value) (w : World) (hb : BufO w h o pre xs tail) (hl : xs.length = p + n) (hcap : n ≤ cap) (hn : n = q + m) (hq : q ≤ 1) (hq1 : q = 1 → xs.getD p 0 = 45) (hm0 : 1 ≤ m) (hm1 : m ≤ 3) (hd : ∀ k, p + q ≤ k → k < p + q + m → 48 ≤ xs.getD k 0 ∧ xs.getD k 0 ≤ 57) :
    Calls Tryz.prog 61 #[.slice (some ⟨h, o + p, none⟩) n cap] w fun e w' => e = .returned (.tuple #[.int .i64 (if q = 1 then -natAt xs (p + q) m else natAt xs (p + q) m), .int .i64 n]) ∧ w = w' := by
  have h1 := ParseInt_at h (o + p) cap n q m (pre ++ xs) tail w hb.2 (by rw [List.length_append, hb.1]; omega) hcap hn hq (fun e => by rw [getD_off hb.1]; exact hq1 e) hm0 hm1 (fun k h1 h2 => by
    have h3 := hd (k - o) (by omega) (by omega)
    rw [← getD_off (pre := pre) (o := o) hb.1, show o + (k - o) = k from by omega] at h3
    exact h3)
  rw [show o + p + q = o + (p + q) from by omega, natAt_off hb.1] at h1
  exact h1
/-- Block h alone has been written. -/
structure Onl (h : Nat) (w w' : World) : Prop where
  grown : w.grownBy w' (some h)
theorem Onl.refl (h : Nat) (w : World) : Onl h w w := ⟨rfl, rfl, rfl, Nat.le_refl _, fun _ _ _ => rfl⟩
theorem Onl.drew {h : Nat} {w w' : World} (x : Onl h w w') : Onl h w w'.drew := ⟨x.1.os, x.1.tape, x.1.output, x.1.size, x.1.block⟩
theorem Onl.setCell {h : Nat} {w w' : World} (x : Onl h w w') {p : Addr} (hp : p.block = h) (v : Value) : Onl h w (w'.setCell p v) :=
  ⟨x.1.os, x.1.tape, x.1.output, by simpa [World.setCell] using x.1.size, fun k hk hn => (Below.heap_setCell _ _ _ _ (fun e => hn (by rw [e, hp]))).trans (x.1.block k hk hn)⟩
theorem Onl.trans {h : Nat} {a b c : World} (x : Onl h a b) (y : Onl h b c) : Onl h a c :=
  ⟨y.1.os.trans x.1.os, y.1.tape.trans x.1.tape, y.1.output.trans x.1.output, Nat.le_trans x.1.size y.1.size, fun k hk hn => (y.1.block k (Nat.lt_of_lt_of_le hk x.1.size) hn).trans (x.1.block k hk hn)⟩
theorem Onl.setRow {g : Nat} {w0 w : World} (x : Onl g w0 w) (cs : Array Value) : Onl g w0 (w.setRow g cs) :=
  ⟨x.1.os, x.1.tape, x.1.output, by simpa [World.setRow] using x.1.size, fun k hk hn => (setRow_other w g k cs (fun e => hn (by rw [e]))).trans (x.1.block k hk hn)⟩
/-- A copy within a block, the others told of. -/
theorem step_copy_only {P : Program} {ops : Array Oper} {op : Oper} {a : Act} {w : World} {K : Act → World → Prop} {Q : Exit → Act → World → Prop} {E : Prop} (hgd : op.guard = none) (d s : Operand) (dT sT : TypeId)
    (ho : op.op = .call { callee := .builtin .copy, args := #[d, s], argTypes := #[dT, sT] }) (elem : TypeId) (hu : P.underlying dT = some (.slice elem)) (hsz : (P.info? elem).map (·.size) = some 1)
    (dp sp : Option Addr) (dLen dCap sLen sCap : Nat) (hd : a.eval d = .slice dp dLen dCap) (hs : a.eval s = .slice sp sLen sCap)
    (g off : Nat) (cur : List Value) (t : TypeId) (hg : w.heap[g]? = some (.cells cur.toArray t (0, 0))) (cs : List Value) (hn : cs.length = Nat.min sLen dLen)
    (hpos : 0 < cs.length → dp = some ⟨g, off, none⟩ ∧ ∃ ad, sp = some ad ∧ ∀ j v, cs[j]? = some v → w.cell? (ad.add j) = some v)
    (hfit : off + cs.length ≤ cur.length) (h1 : ∀ v ∈ cs, v.oneCell' = true) (B : Nat) (w0 : World) (hb : Onl g w0 w) (hBg : B ≤ g)
    (h : ∀ w', RowKit.Hid (w'.heap[g]? = some (.cells (Go.splice cur off cs).toArray t (0, 0))) → Onl g w0 w' → K (a.put op.dst (goInt cs.length)) w') :
    if Region.wanted op (yielded ops a.tmps) = true then Oper.wp P op a w K Q else E := by
  rw [if_pos (show Region.wanted op (yielded ops a.tmps) = true by simp [Region.wanted, hgd])]
  unfold Oper.wp
  rcases Nat.eq_zero_or_pos cs.length with h0 | h0
  · obtain rfl : cs = [] := List.eq_nil_of_length_eq_zero h0
    have hrun := run_copy_none (P := P) w dT sT op.type elem dp sp dLen dCap sLen sCap hu hsz (by simpa using hn.symm)
    simp [execOp, ho, resolve, invoke, builtin, hd, hs, hrun, Result.andThen]
    exact h w (Lib.hid (by simpa [Go.splice] using hg)) hb
  · obtain ⟨rfl, ad, rfl, hsrc⟩ := hpos h0
    have hrun := run_copy_row (P := P) w dT sT op.type elem g off dLen dCap ad sLen sCap cur.toArray t cs hu hsz hg hn hsrc (by simpa using hfit) h1
    simp [execOp, ho, resolve, invoke, builtin, hd, hs, hrun, Result.andThen]
    exact h _ (Lib.hid (by simpa [Go.splice] using setRow_heap w g _ _ t _ hg)) (hb.setRow _)

end Go.Proofs.YthoekplablhgfaaGreatDoor

/- ODec -/
namespace Go.Proofs.YthoekplablhgfaaGreatDoor
open Go.RowKit
set_option linter.unusedVariables false

def dig (d : Int) : Prop := 48 ≤ d ∧ d ≤ 57
def trimF (F : List Int) : List Int := (dropZ F.reverse).reverse
theorem dropZ_split (l : List Int) : ∃ z, l = List.replicate z 48 ++ dropZ l ∧ (∀ c r, dropZ l = c :: r → c ≠ 48) := by
  induction l with
  | nil => exact ⟨0, rfl, fun _ _ h => by cases h⟩
  | cons c r ih =>
    obtain ⟨z, h1, h2⟩ := ih
    by_cases hc : c = 48
    · subst hc
      refine ⟨z + 1, ?_, ?_⟩
      · rw [dropZ, if_pos rfl]
        conv => lhs; rw [h1]
        rfl
      · rw [dropZ, if_pos rfl]; exact h2
    · refine ⟨0, ?_, ?_⟩
      · rw [dropZ, if_neg hc]; rfl
      · rw [dropZ, if_neg hc]
        intro c' r' h
        injection h with h _
        rw [← h]; exact hc
theorem trimF_split (F : List Int) : ∃ z, F = trimF F ++ List.replicate z 48 ∧ (∀ k, trimF F ≠ [] → k + 1 = (trimF F).length → (trimF F).getD k 0 ≠ 48) := by
  obtain ⟨z, h1, h2⟩ := dropZ_split F.reverse
  refine ⟨z, ?_, ?_⟩
  · have := congrArg List.reverse h1
    rw [List.reverse_reverse, List.reverse_append, List.reverse_replicate] at this
    exact this
  · intro k hne hk
    unfold trimF at hne hk ⊢
    cases hd : dropZ F.reverse with
    | nil => rw [hd] at hne; exact absurd rfl hne
    | cons c r =>
      rw [hd] at hk
      have hc := h2 c r hd
      rw [List.reverse_cons] at hk ⊢
      simp at hk
      rw [List.getD_eq_getElem?_getD, List.getElem?_append_right (by simp; omega)]
      simp [hk]
      exact hc

theorem getD_append_left' {l r : List Int} {k : Nat} (h : k < l.length) : (l ++ r).getD k 0 = l.getD k 0 := by
  rw [List.getD_eq_getElem?_getD, List.getElem?_append_left h, List.getD_eq_getElem?_getD]
theorem getD_append_right' {l r : List Int} {k : Nat} (h : l.length ≤ k) : (l ++ r).getD k 0 = r.getD (k - l.length) 0 := by
  rw [List.getD_eq_getElem?_getD, List.getElem?_append_right h, List.getD_eq_getElem?_getD]
theorem getD_rep {z k : Nat} (h : k < z) : (List.replicate z (48 : Int)).getD k 0 = 48 := by
  rw [List.getD_eq_getElem?_getD, List.getElem?_replicate, if_pos h]; rfl
theorem getD_over {l : List Int} {k : Nat} (h : l.length ≤ k) : l.getD k 0 = 0 := by
  rw [List.getD_eq_getElem?_getD, List.getElem?_eq_none h]; rfl

end Go.Proofs.YthoekplablhgfaaGreatDoor

/- OPure -/
namespace Go.Proofs.YthoekplablhgfaaGreatDoor
open Go.RowKit
set_option linter.unusedVariables false

/-- Where the parts of a number lie in N bytes: behind the sign (sl bytes) the mantissa, to n; its point at di (n: there is none); z leading noughts; I and F: the digits ahead of the point and behind it that count; ev: the exponent. -/
structure NumAt (xs : List Int) (N n sl di z : Nat) (neg : Bool) (I F : List Int) (ev : Int) : Prop where
  len : xs.length = N
  nN : n ≤ N
  two : 2 ≤ N
  sl1 : sl ≤ 1
  sign : (sl = 1 → (xs.getD 0 0 = 45 ∧ neg = true) ∨ (xs.getD 0 0 = 43 ∧ neg = false)) ∧ (sl = 0 → neg = false ∧ xs.getD 0 0 ≠ 45 ∧ xs.getD 0 0 ≠ 43)
  dil : sl ≤ di
  dot : di < n → xs.getD di 0 = 46 ∧ di + 1 < n
  nodot : di = n → sl < n
  mant : ∀ k, sl ≤ k → k < n → k ≠ di → 48 ≤ xs.getD k 0 ∧ xs.getD k 0 ≤ 57
  zle : sl + z + I.length = di
  zero : ∀ k, sl ≤ k → k < sl + z → xs.getD k 0 = 48
  zend : sl + z < di → xs.getD (sl + z) 0 ≠ 48
  hI : ∀ d ∈ I, dig d
  hF : ∀ d ∈ F, dig d
  mle : di + 1 + F.length ≤ n ∨ (di = n ∧ F.length = 0)
  mzero : ∀ k, di + 1 + F.length ≤ k → k < n → xs.getD k 0 = 48
  mend : 0 < F.length → xs.getD (di + F.length) 0 ≠ 48
  iat : ∀ k, k < I.length → xs.getD (sl + z + k) 0 = I.getD k 0
  fat : ∀ k, k < F.length → xs.getD (di + 1 + k) 0 = F.getD k 0
  noexp : n = N → ev = 0
  exp : n < N → (xs.getD n 0 = 101 ∨ xs.getD n 0 = 69) ∧ ∃ p q c, N = n + 1 + p + q + c ∧ p ≤ 1 ∧ (p = 1 → xs.getD (n + 1) 0 = 43) ∧ (p = 0 → xs.getD (n + 1) 0 ≠ 43) ∧ q ≤ 1 ∧ (q = 1 → xs.getD (n + 1 + p) 0 = 45) ∧ 1 ≤ c ∧ c ≤ 3 ∧ (∀ k, n + 1 + p + q ≤ k → k < n + 1 + p + q + c → 48 ≤ xs.getD k 0 ∧ xs.getD k 0 ≤ 57) ∧ ev = (if q = 1 then -natAt xs (n + 1 + p + q) c else natAt xs (n + 1 + p + q) c)
  evb : -400 ≤ ev ∧ ev ≤ 400
  evl : (ev < 0 → (n : Int) + 2 + dl (-ev) ≤ N) ∧ (0 < ev → (n : Int) + 1 + dl ev ≤ N) ∧ I.length + F.length ≤ 40

/-- The digits of a number below 1000. -/
def digs (x : Int) : List Int := if x < 10 then [48 + x] else if x < 100 then [48 + x / 10, 48 + x % 10] else [48 + x / 100, 48 + x / 10 % 10, 48 + x % 10]
theorem digs_length (x : Int) : ((digs x).length : Int) = dl x := by
  unfold digs dl
  split
  · rfl
  · split <;> rfl
/-- The digits that count, and the power of ten behind the first point. -/
def sigD (I F : List Int) : List Int := if I = [] then dropZ F else if F = [] then trimF I else I ++ F
def nrm (I F : List Int) : Int := if I = [] then ((dropZ F).length : Int) - F.length else I.length
def posTail (i : Int) : List Int := if 3 ≤ i then 101 :: digs i else List.replicate i.toNat 48
/-- Whether the second form is taken. -/
def second (D F : List Int) (e : Int) : Bool := decide (e < -3) && decide (li e < li (e - D.length)) && decide (F ≠ [])
def body (D F : List Int) (e : Int) : List Int :=
  if (D.length : Int) ≤ e then D ++ posTail (e - D.length)
  else if second D F e = true then 46 :: D ++ 101 :: 45 :: digs (-e)
  else if -li (e - D.length) ≤ e then (if e < 0 then 46 :: List.replicate (-e).toNat 48 ++ D else D.take e.toNat ++ 46 :: D.drop e.toNat)
  else D ++ 101 :: 45 :: digs (-(e - D.length))
/-- Where the second form is there already. -/
def asIs (I F : List Int) (ev : Int) : Bool := !decide (((sigD I F).length : Int) ≤ nrm I F + ev) && second (sigD I F) F (nrm I F + ev) && decide (nrm I F = 0)
def numR (xs : List Int) (neg : Bool) (I F : List Int) (ev : Int) : List Int :=
  if I = [] ∧ F = [] then [48] else if asIs I F ev = true then xs else (if neg = true then [45] else []) ++ body (sigD I F) F (nrm I F + ev)

def NumPost (h o cap N : Nat) (out pre : List Int) (tail : List Value) (w : World) (e : Ending) (w' : World) : Prop :=
  ∃ (a : Nat) (ys : List Int), e = .returned (.slice (some ⟨h, o + a, none⟩) out.length (cap - a)) ∧ BufO w' h o pre ys tail ∧ Onl h w w' ∧ ys.length = N ∧ a + out.length ≤ N ∧ ∀ j, j < out.length → ys.getD (a + j) 0 = out.getD j 0

theorem fr_parts (F : List Int) : ∃ g, g + (dropZ F).length = F.length ∧ (∀ k, k < g → F.getD k 0 = 48) ∧ (∀ k, k < (dropZ F).length → F.getD (g + k) 0 = (dropZ F).getD k 0) ∧ (dropZ F ≠ [] → F.getD g 0 ≠ 48) := by
  obtain ⟨g, h1, h2⟩ := dropZ_split F
  have hl := congrArg List.length h1
  rw [List.length_append, List.length_replicate] at hl
  refine ⟨g, hl.symm, fun k hk => ?_, fun k hk => ?_, fun hne => ?_⟩
  · rw [h1, getD_append_left' (by simpa using hk), getD_rep hk]
  · conv => lhs; rw [h1]
    rw [getD_append_right' (by simp), List.length_replicate, Nat.add_sub_cancel_left]
  · cases hd : dropZ F with
    | nil => exact absurd hd hne
    | cons c r =>
      rw [h1, getD_append_right' (by simp), List.length_replicate, Nat.sub_self, hd]
      exact h2 c r hd
theorem in_parts (I : List Int) : (trimF I).length ≤ I.length ∧ (∀ k, k < (trimF I).length → I.getD k 0 = (trimF I).getD k 0) ∧ (∀ k, (trimF I).length ≤ k → k < I.length → I.getD k 0 = 48) ∧ (0 < (trimF I).length → I.getD ((trimF I).length - 1) 0 ≠ 48) := by
  obtain ⟨r, h1, h2⟩ := trimF_split I
  have hl := congrArg List.length h1
  rw [List.length_append, List.length_replicate] at hl
  have hg : ∀ k, k < (trimF I).length → I.getD k 0 = (trimF I).getD k 0 := fun k hk => by
    conv => lhs; rw [h1]
    rw [getD_append_left' hk]
  refine ⟨by omega, hg, fun k hk hk1 => ?_, fun hp => ?_⟩
  · rw [h1, getD_append_right' hk, getD_rep (by omega)]
  · rw [hg _ (by omega)]
    exact h2 _ (fun e => by rw [e] at hp; simp at hp) (by omega)

/-- No digit ahead of the point: the point lies at st, g noughts behind it, then the digits D. -/
structure KA (xs D : List Int) (N n st di en nn g : Nat) (nx : Int) : Prop where
  e1 : st = di
  e2 : en = st + 1 + g + nn
  e3 : nx = -(g : Int)
  le : en ≤ n
  pt : xs.getD st 0 = 46
  z : ∀ k, k < g → xs.getD (st + 1 + k) 0 = 48
  d : ∀ k, k < nn → xs.getD (st + 1 + g + k) 0 = D.getD k 0
/-- No digit behind the point. -/
structure KB (xs D : List Int) (N n st di en nn : Nat) (nx : Int) : Prop where
  e1 : en = st + nn
  e2 : en ≤ di
  e3 : nx = (di : Int) - st
  le : di ≤ n
  d : ∀ k, k < nn → xs.getD (st + k) 0 = D.getD k 0
/-- Digits on both sides. -/
structure KC (xs D : List Int) (N n st di en nn : Nat) (nx : Int) : Prop where
  e1 : st < di
  e2 : di + 1 < en
  e3 : nx = (di : Int) - st
  e4 : nn + st + 1 = en
  le : en ≤ n
  pt : xs.getD di 0 = 46
  d1 : ∀ k, k < di - st → xs.getD (st + k) 0 = D.getD k 0
  d2 : ∀ k, k < en - di - 1 → xs.getD (di + 1 + k) 0 = D.getD (di - st + k) 0

theorem kinds {xs : List Int} {N n sl di z : Nat} {neg : Bool} {I F : List Int} {ev : Int} (h : NumAt xs N n sl di z neg I F ev) (hz : ¬ (sl + z = di ∧ F.length = 0)) :
    1 ≤ (sigD I F).length ∧ (sigD I F).length ≤ 40 ∧ -40 ≤ nrm I F ∧ nrm I F ≤ 40 ∧
    ((I = [] ∧ F ≠ [] ∧ ∃ g, KA xs (sigD I F) N n (sl + z) di (if F.length = 0 then sl + z + (sigD I F).length else di + 1 + F.length) (sigD I F).length g (nrm I F)) ∨
     (I ≠ [] ∧ F = [] ∧ KB xs (sigD I F) N n (sl + z) di (if F.length = 0 then sl + z + (sigD I F).length else di + 1 + F.length) (sigD I F).length (nrm I F)) ∨
     (I ≠ [] ∧ F ≠ [] ∧ KC xs (sigD I F) N n (sl + z) di (if F.length = 0 then sl + z + (sigD I F).length else di + 1 + F.length) (sigD I F).length (nrm I F))) := by
  have hl := h.evl.2.2
  have hle := h.zle
  have hdn : di ≤ n := by have := h.mle; omega
  by_cases hI : I = []
  · have hI1 : I.length = 0 := by rw [hI]; rfl
    have hF : F.length ≠ 0 := fun e => hz ⟨by omega, e⟩
    have hFn : F ≠ [] := fun e => hF (by rw [e]; rfl)
    obtain ⟨g, g1, g2, g3, g4⟩ := fr_parts F
    have hD : sigD I F = dropZ F := by unfold sigD; rw [if_pos hI]
    have hx : nrm I F = ((dropZ F).length : Int) - F.length := by unfold nrm; rw [if_pos hI]
    have hdi : di < n := by have := h.mle; omega
    have h1 : 1 ≤ (dropZ F).length := by
      rcases Nat.eq_zero_or_pos (dropZ F).length with e | e
      · exfalso
        have h1 := h.mend (by omega)
        have h2 := h.fat (F.length - 1) (by omega)
        rw [show di + 1 + (F.length - 1) = di + F.length from by omega] at h2
        rw [h2] at h1
        exact h1 (g2 _ (by omega))
      · exact e
    rw [hD, hx, if_neg hF]
    refine ⟨h1, by omega, by omega, by omega, .inl ⟨hI, hFn, g, by omega, by omega, by omega, by have := h.mle; omega, ?_, fun k hk => ?_, fun k hk => ?_⟩⟩
    · rw [show sl + z = di from by omega]; exact (h.dot hdi).1
    · rw [show sl + z + 1 + k = di + 1 + k from by omega, h.fat k (by omega)]
      exact g2 k hk
    · rw [show sl + z + 1 + g + k = di + 1 + (g + k) from by omega, h.fat (g + k) (by omega)]
      exact g3 k hk
  · have hI1 : 1 ≤ I.length := by
      rcases Nat.eq_zero_or_pos I.length with e | e
      · exact absurd (List.eq_nil_of_length_eq_zero e) hI
      · exact e
    have hx : nrm I F = (I.length : Int) := by unfold nrm; rw [if_neg hI]
    by_cases hF : F = []
    · have hF0 : F.length = 0 := by rw [hF]; rfl
      have hD : sigD I F = trimF I := by unfold sigD; rw [if_neg hI, if_pos hF]
      obtain ⟨g1, g2, g3, g4⟩ := in_parts I
      have h1 : 1 ≤ (trimF I).length := by
        rcases Nat.eq_zero_or_pos (trimF I).length with e | e
        · exfalso
          have h1 := h.zend (by omega)
          have h2 := h.iat 0 (by omega)
          rw [Nat.add_zero] at h2
          rw [h2] at h1
          exact h1 (g3 0 (by omega) (by omega))
        · exact e
      rw [hD, hx, if_pos hF0]
      refine ⟨h1, by omega, by omega, by omega, .inr (.inl ⟨hI, hF, rfl, by omega, by omega, hdn, fun k hk => ?_⟩)⟩
      rw [h.iat k (by omega)]
      exact g2 k hk
    · have hF0 : F.length ≠ 0 := fun e => hF (List.eq_nil_of_length_eq_zero e)
      have hD : sigD I F = I ++ F := by unfold sigD; rw [if_neg hI, if_neg hF]
      have hdi : di < n := by have := h.mle; omega
      rw [hD, hx, if_neg hF0, List.length_append]
      refine ⟨by omega, by omega, by omega, by omega, .inr (.inr ⟨hI, hF, by omega, by omega, by omega, by omega, by have := h.mle; omega, (h.dot hdi).1, fun k hk => ?_, fun k hk => ?_⟩)⟩
      · rw [h.iat k (by omega), getD_append_left' (by omega)]
      · rw [h.fat k (by omega), getD_append_right' (by omega)]
        congr 1
        omega

/-- How long the tail of a whole number is. -/
def tl (i : Int) : Int := if 3 ≤ i then 1 + dl i else i
/-- There is room for the tail: digits behind the point alone, or on both sides. -/
theorem room_a {nn g : Nat} {nx ev e X : Int} (h1 : ev < 0 → 2 + dl (-ev) ≤ X) (h2 : 0 ≤ X ∧ (0 < ev → 1 + dl ev ≤ X)) (h3 : nx = -(g : Int)) (h4 : nx + ev = e) (h5 : (nn : Int) ≤ e) : tl (e - (nn : Int)) ≤ X := by
  have h6 := h2.2
  unfold tl
  by_cases h0 : 0 < ev
  · have h7 := h6 h0
    unfold dl at h7 ⊢
    split at h7 <;> (try split at h7) <;> split <;> (try split) <;> (try split) <;> omega
  · split
    · exfalso; omega
    · omega

theorem room_b {nn r : Nat} {nx ev e X : Int} (h1 : ev < 0 → 2 + dl (-ev) ≤ X) (h2 : 0 ≤ X ∧ (0 < ev → 1 + dl ev ≤ X)) (h3 : nx = (nn : Int) + (r : Int)) (h4 : nx + ev = e) (h5 : (nn : Int) ≤ e) : tl (e - (nn : Int)) ≤ (r : Int) + X := by
  have h6 := h2.2
  unfold tl
  by_cases h0 : 0 < ev
  · have h7 := h6 h0
    unfold dl at h7 ⊢
    split at h7 <;> (try split at h7) <;> split <;> (try split) <;> (try split) <;> omega
  · unfold dl
    split <;> (try split) <;> (try split) <;> omega
theorem room_c {nn : Nat} {nx ev e X : Int} (h1 : ev < 0 → 2 + dl (-ev) ≤ X) (h2 : 0 ≤ X ∧ (0 < ev → 1 + dl ev ≤ X)) (h3 : nx < (nn : Int)) (h4 : nx + ev = e) (h5 : (nn : Int) ≤ e) : tl (e - (nn : Int)) ≤ X := by
  have h6 := h2.2
  unfold tl
  have h0 : 0 < ev := by omega
  have h7 := h6 h0
  unfold dl at h7 ⊢
  split at h7 <;> (try split at h7) <;> split <;> (try split) <;> (try split) <;> omega

end Go.Proofs.YthoekplablhgfaaGreatDoor

/- ORoom -/
namespace Go.Proofs.YthoekplablhgfaaGreatDoor
open Go.RowKit
set_option linter.unusedVariables false

/-- The last k digits of x. -/
def dgs : Nat → Int → List Int
  | 0, _ => []
  | k + 1, x => dgs k (x / 10) ++ [x % 10 + 48]
theorem dgs_length (k : Nat) (x : Int) : (dgs k x).length = k := by
  induction k generalizing x with
  | zero => rfl
  | succ k ih => simp [dgs, ih]
theorem dgs_digs {x : Int} {L : Nat} (h0 : 0 ≤ x) (h1 : x < 1000) (hL : dl x = (L : Int)) : dgs L x = digs x := by
  unfold dl at hL
  unfold digs
  by_cases k1 : x < 10
  · rw [if_pos k1] at hL ⊢
    obtain rfl : L = 1 := by omega
    simp [dgs]; omega
  · rw [if_neg k1] at hL ⊢
    by_cases k2 : x < 100
    · rw [if_pos k2] at hL ⊢
      obtain rfl : L = 2 := by omega
      simp [dgs]; omega
    · rw [if_neg k2] at hL ⊢
      obtain rfl : L = 3 := by omega
      simp [dgs]; omega
theorem dl_pos (x : Int) : 1 ≤ dl x ∧ dl x ≤ 3 := by unfold dl; split <;> (try split) <;> omega
theorem li_pos {x : Int} (h : 0 ≤ x) : li x = dl x := by unfold li; rw [if_neg (by omega)]
theorem li_neg {x : Int} (h : x < 0) : li x = 1 + dl (-x) := by unfold li; rw [if_pos h]
theorem dl_mono {x y : Int} (h : x ≤ y) : dl x ≤ dl y := by unfold dl; split <;> (try split) <;> (try split) <;> (try split) <;> omega
theorem dl_small {x : Int} (h0 : 0 ≤ x) : dl x ≤ x ∨ x = 0 := by unfold dl; split <;> (try split) <;> omega
theorem dl_add {x y : Int} (h0 : 0 ≤ x) (h1 : 0 ≤ y) : dl (x + y) ≤ dl y + x := by
  unfold dl; split <;> (try split) <;> (try split) <;> (try split) <;> omega
theorem body_pos {D F : List Int} {e : Int} (h : 1 ≤ D.length) : 1 ≤ (body D F e).length := by
  unfold body
  split
  · rw [List.length_append]; omega
  · split
    · simp
    · split
      · split
        · simp
        · rw [List.length_append]; simp; omega
      · rw [List.length_append]; omega

/-- The digits of a negative number, byte for byte as the program makes them. -/
theorem neg_rem {q c : Int} (h0 : 0 ≤ q) (h1 : 0 ≤ c) (h2 : c ≤ 9) : (-(10 * q + c)).tmod 10 = -c ∧ (-(10 * q + c)).tdiv 10 = -q := by
  constructor
  · rw [Int.neg_tmod, Int.tmod_eq_emod_of_nonneg (by omega)]; omega
  · rw [Int.neg_tdiv, Int.tdiv_eq_ediv_of_nonneg (by omega)]; omega
theorem neg_byte {c : Int} (h1 : 0 ≤ c) (h2 : c ≤ 9) : IntKind.u8.wrap (-IntKind.u8.wrap (-c)) = c := by
  rw [IntKind.wrap_u8, IntKind.wrap_u8]; omega

theorem tl_nonneg (i : Nat) : 0 ≤ tl (i : Int) := by
  have := dl_pos (i : Int)
  unfold tl; split <;> omega

/-- The bytes L lie at place a. -/
def At (zs : List Int) (a : Nat) (L : List Int) : Prop := ∀ j, j < L.length → zs.getD (a + j) 0 = L.getD j 0
theorem At.nil {zs : List Int} {a : Nat} : At zs a [] := fun j h => absurd h (by simp)
theorem At.append {zs : List Int} {a : Nat} {A B : List Int} (h1 : At zs a A) (h2 : At zs (a + A.length) B) : At zs a (A ++ B) := fun j hj => by
  rw [List.length_append] at hj
  by_cases k : j < A.length
  · rw [getD_append_left' k]; exact h1 j k
  · rw [getD_append_right' (by omega), ← h2 (j - A.length) (by omega)]
    congr 1
    omega
theorem At.cons {zs : List Int} {a : Nat} {c : Int} {L : List Int} (h1 : zs.getD a 0 = c) (h2 : At zs (a + 1) L) : At zs a (c :: L) := fun j hj => by
  cases j with
  | zero => exact h1
  | succ j =>
    rw [List.getD_cons_succ, ← h2 j (by simpa using hj)]
    congr 1
    omega
theorem At.rep {zs : List Int} {a n : Nat} {c : Int} (h : ∀ j, j < n → zs.getD (a + j) 0 = c) : At zs a (List.replicate n c) := fun j hj => by
  rw [List.length_replicate] at hj
  rw [h j hj, List.getD_eq_getElem?_getD, List.getElem?_replicate, if_pos hj]
  rfl
theorem At.of {zs D : List Int} {a n : Nat} (hn : D.length = n) (h : ∀ j, j < n → zs.getD (a + j) 0 = D.getD j 0) : At zs a D := fun j hj => h j (by omega)
theorem At.take {zs D : List Int} {a k : Nat} (hk : k ≤ D.length) (h : ∀ j, j < k → zs.getD (a + j) 0 = D.getD j 0) : At zs a (D.take k) := fun j hj => by
  rw [List.length_take] at hj
  rw [h j (by omega), List.getD_eq_getElem?_getD, List.getD_eq_getElem?_getD, List.getElem?_take, if_pos (by omega)]
theorem At.drop {zs D : List Int} {a k : Nat} (h : ∀ j, k + j < D.length → zs.getD (a + j) 0 = D.getD (k + j) 0) : At zs a (D.drop k) := fun j hj => by
  rw [List.length_drop] at hj
  rw [h j (by omega), List.getD_eq_getElem?_getD, List.getD_eq_getElem?_getD, List.getElem?_drop]
theorem At.same {zs ys L : List Int} {a b : Nat} (h : At ys a L) (hl : a + L.length ≤ b) (hs : ∀ j, j < b → zs.getD j 0 = ys.getD j 0) : At zs a L := fun j hj => by
  rw [hs _ (by omega)]; exact h j hj

/-- Case 2's room. -/
theorem room2_a {g : Nat} {nx ev e X : Int} (h1 : ev < 0 → 2 + dl (-ev) ≤ X) (h2 : 0 ≤ X) (h3 : nx = -(g : Int)) (hg : 0 < g) (hg2 : g ≤ 40) (h4 : nx + ev = e) (h5 : e < -3) : 2 + dl (-e) ≤ (g : Int) + X := by
  by_cases h0 : ev < 0
  · have h6 := h1 h0
    have h7 := dl_add (x := g) (y := -ev) (by omega) (by omega)
    rw [show (g : Int) + -ev = -e from by omega] at h7
    omega
  · have h7 := dl_mono (x := -e) (y := g) (by omega)
    have : dl (g : Int) ≤ g - 2 := by unfold dl; split <;> (try split) <;> omega
    omega
theorem room2_c {nx ev e X : Int} (h1 : ev < 0 → 2 + dl (-ev) ≤ X) (h3 : 0 < nx) (h4 : nx + ev = e) (h5 : e < -3) : 2 + dl (-e) ≤ X := by
  have h6 := h1 (by omega)
  have h7 := dl_mono (x := -e) (y := -ev) (by omega)
  omega
/-- Case 3: a small power. -/
theorem small3 {nn : Nat} {e : Int} (hn : nn ≤ 40) (h1 : (1 : Int) ≤ nn) (h2 : -li (e - (nn : Int)) ≤ e) (h3 : e < 0) : -3 ≤ e ∧ ((nn : Int) - e < 10 → e = -1 ∨ e = -2) := by
  rw [li_neg (by omega)] at h2
  unfold dl at h2
  split at h2
  · omega
  · split at h2 <;> omega
theorem room3_b {nn Z r : Nat} {ev X : Int} (h1 : ev < 0 → 2 + dl (-ev) ≤ X) (hZ : Z ≤ 3) (h2 : nn + Z < 10 → Z ≤ 2) (h3 : nn ≤ r) (h4 : ev = -((Z : Int) + r)) (h5 : 1 ≤ Z) : (Z : Int) + 1 ≤ X := by
  have h6 := h1 (by omega)
  unfold dl at h6
  split at h6
  · omega
  · split at h6 <;> omega
/-- Case 4's room, with the power that isn't the second form's. -/
theorem room4 {nn : Nat} {e : Int} (hn : nn ≤ 40) (h1 : (1 : Int) ≤ nn) (h2 : ¬ -li (e - (nn : Int)) ≤ e) (h3 : e < -3 → ¬ li e < li (e - (nn : Int))) (h4 : e < 0) : dl ((nn : Int) - e) ≤ dl (-e) := by
  rw [li_neg (by omega)] at h2
  rw [show -(e - (nn : Int)) = (nn : Int) - e from by omega] at h2
  by_cases h5 : e < -3
  · have h6 := h3 h5
    rw [li_neg (by omega), li_neg (by omega), show -(e - (nn : Int)) = (nn : Int) - e from by omega] at h6
    omega
  · have h7 := dl_pos ((nn : Int) - e)
    have h8 := dl_pos (-e)
    omega
theorem room4_e {nn : Nat} {e : Int} (h1 : (1 : Int) ≤ nn) (h2 : ¬ -li (e - (nn : Int)) ≤ e) (h0 : ¬ (nn : Int) ≤ e) : e ≤ -3 := by
  rw [li_neg (by omega)] at h2
  have h7 := dl_pos (-(e - (nn : Int)))
  omega
theorem room4_a {nn g : Nat} {nx ev e X : Int} (h1 : ev < 0 → 2 + dl (-ev) ≤ X) (h2 : 0 ≤ X) (h3 : nx = -(g : Int)) (hg2 : g ≤ 40) (h4 : nx + ev = e) (h5 : dl ((nn : Int) - e) ≤ dl (-e)) (h6 : e ≤ -3) : 2 + dl ((nn : Int) - e) ≤ (g : Int) + X := by
  by_cases h0 : ev < 0
  · have h7 := h1 h0
    have h8 := dl_add (x := g) (y := -ev) (by omega) (by omega)
    rw [show (g : Int) + -ev = -e from by omega] at h8
    omega
  · have h7 := dl_mono (x := -e) (y := g) (by omega)
    have : dl (g : Int) ≤ g - 2 := by unfold dl; split <;> (try split) <;> omega
    omega
theorem room4_b {nn : Nat} {nx ev e X : Int} (h1 : ev < 0 → 2 + dl (-ev) ≤ X) (h3 : (nn : Int) ≤ nx) (h4 : nx + ev = e) (h6 : e ≤ -3) : 2 + dl ((nn : Int) - e) ≤ X := by
  have h7 := h1 (by omega)
  have h8 := dl_mono (x := (nn : Int) - e) (y := -ev) (by omega)
  omega
theorem room4_c {nn : Nat} {nx ev e X : Int} (h1 : ev < 0 → 2 + dl (-ev) ≤ X) (h3 : 0 < nx) (h4 : nx + ev = e) (h5 : dl ((nn : Int) - e) ≤ dl (-e)) (h6 : e ≤ -3) : 2 + dl ((nn : Int) - e) ≤ X := by
  have h7 := h1 (by omega)
  have h8 := dl_mono (x := -e) (y := -ev) (by omega)
  omega

end Go.Proofs.YthoekplablhgfaaGreatDoor
