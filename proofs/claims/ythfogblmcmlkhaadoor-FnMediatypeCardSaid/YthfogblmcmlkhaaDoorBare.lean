/-
  The contracts of spec.xmlSpace and spec.Bare: a text without white space outside of quotes, in small letters there.
-/
import Derived.Test.YthfogblmcmlkhaaDoorMtImpl
namespace Go.Proofs.YthfogblmcmlkhaaDoor
open Go.RowKit
set_option linter.unusedVariables false

def xsp (c : Int) : Bool := c == 32 || c == 9 || c == 10 || c == 13
theorem xmlSpace_any (c : Int) (w : World) (hx : byte c) :
    Calls Tryd.prog 12 #[.int .u8 c] w fun e w' => e = .returned (.bool (xsp c)) ∧ w = w' := by
  obtain ⟨h0, h1⟩ := hx
  by_cases a : c = 32
  · subst a
    go_enter Tryd.func12, Tryd.ntmps12
    go_wp2
    go_ret
    exact ⟨rfl, rfl⟩
  by_cases b : c = 9
  · subst b
    go_enter Tryd.func12, Tryd.ntmps12
    go_wp2
    go_ret
    exact ⟨rfl, rfl⟩
  by_cases d : c = 10
  · subst d
    go_enter Tryd.func12, Tryd.ntmps12
    go_wp2
    go_ret
    exact ⟨rfl, rfl⟩
  by_cases f : c = 13
  · subst f
    go_enter Tryd.func12, Tryd.ntmps12
    go_wp2
    go_ret
    exact ⟨rfl, rfl⟩
  have e1 : (c == 32) = false := by simpa using a
  have e2 : (c == 9) = false := by simpa using b
  have e3 : (c == 10) = false := by simpa using d
  have e4 : (c == 13) = false := by simpa using f
  have e5 : xsp c = false := by simp [xsp, a, b, d, f]
  rw [e5]
  clear e5
  go_enter Tryd.func12, Tryd.ntmps12
  go_wp2
  go_ret
  exact ⟨rfl, rfl⟩

def stepB (st : Bool × List Int) (c : Int) : Bool × List Int :=
  let q := if c = 34 then !st.1 else st.1
  if q = false ∧ xsp c = true then (q, st.2) else (q, st.2 ++ [if q = false then low c else c])
def bareF (l : List Int) : Bool × List Int := l.foldl stepB (false, [])
theorem bareF_snoc (l : List Int) (k : Nat) (h : k < l.length) : bareF (l.take (k + 1)) = stepB (bareF (l.take k)) (l.getD k 0) := by
  unfold bareF
  rw [List.take_succ_eq_append_getElem h, List.foldl_append, List.getD_eq_getElem?_getD, List.getElem?_eq_getElem h]
  rfl
def bareS (s : ByteArray) : ByteArray := strOfNums (bareF (bytesOf s)).2
theorem bareF_len : ∀ (l : List Int) (st : Bool × List Int), (l.foldl stepB st).2.length ≤ st.2.length + l.length
  | [], st => by simp
  | c :: r, st => by
    have h := bareF_len r (stepB st c)
    have h2 : (stepB st c).2.length ≤ st.2.length + 1 := by
      by_cases h : (if c = 34 then !st.1 else st.1) = false ∧ xsp c = true
      · rw [stepB]; simp only [if_pos h]; omega
      · rw [stepB]; simp only [if_neg h, List.length_append, List.length_cons, List.length_nil]; omega
    simp only [List.foldl_cons, List.length_cons]
    omega
theorem strOfNums_snoc (xs : List Int) (c : Int) : strOfNums (xs ++ [c]) = strOfNums xs ++ strOfNums [c] := by
  unfold strOfNums
  apply ByteArray.ext
  apply Array.ext'
  rw [ByteArray.data_append, Array.toList_append]
  simp
theorem bytesOf_get (s : ByteArray) (k : Nat) (h : k < s.size) : (bytesOf s).getD k 0 = ((s[k]'h).toNat : Int) := by
  unfold bytesOf
  have h' : k < s.data.toList.length := by simpa using h
  rw [List.getD_eq_getElem?_getD, List.getElem?_map, List.getElem?_eq_getElem h']
  simp
  rfl

/-- 'string([]byte{c})'. -/
theorem conv_one (w : World) (c : Int) : (convert 33 9 (.slice (some ⟨w.heap.size, 0, none⟩) 1 1)).run Tryd.prog (w.alloc (.cells #[.int .u8 c] 5)) = .ok (.string (strOfNums [c])) (w.alloc (.cells #[.int .u8 c] 5)) :=
  run_convert_bytes_arg (P := Tryd.prog) (w := w.alloc (.cells #[.int .u8 c] 5)) 33 5 Tryd.underlying33 Tryd.underlying5 w.heap.size 0 1 1 [c] rfl (fun i hi => by
    obtain rfl : i = 0 := by omega
    rw [cell_of_row _ _ _ _ _ _ (heap_alloc_new w _)]
    rfl) 9 Tryd.underlying9

set_option maxHeartbeats 1600000 in
theorem Bare_any (s : ByteArray) (w : World) (hmax : s.size ≤ 1000000) :
    Calls Tryd.prog 7 #[.string s] w fun e w' => e = .returned (.string (bareS s)) ∧ Below w.heap.size w w' := by
  go_enter Tryd.func7, Tryd.ntmps7
  go_wp2_with fail
  go_loopw [3, 4, 9] (fun v3 v4 v9 wr => ∃ k : Nat, k ≤ s.size ∧ v9 = .int .i64 k ∧ v3 = .string (strOfNums (bareF ((bytesOf s).take k)).2) ∧ v4 = .bool (bareF ((bytesOf s).take k)).1 ∧ Below w.heap.size w wr) (fun _ _ v9 _ => s.size - (intOf v9).toNat)
  case atStart => exact ⟨0, by omega, rfl, rfl, rfl, Below.refl _ _⟩
  case round =>
    obtain ⟨k, hk, rfl, rfl, rfl, hb⟩ := hrel
    by_cases hlt : k < s.size
    · have hlen : ((bareF ((bytesOf s).take k)).2).length ≤ k := by
        have := bareF_len ((bytesOf s).take k) (false, [])
        have h2 := List.length_take_le k (bytesOf s)
        simp only [List.length_nil] at this
        unfold bareF
        omega
      have hst := bareF_snoc (bytesOf s) k (by rw [bytesOf_length]; exact hlt)
      have hc : ((s[k]'hlt).toNat : Int) = (bytesOf s).getD k 0 := (bytesOf_get s k hlt).symm
      have hbyte := bytesOf_byte s k
      obtain ⟨c, hcd⟩ : ∃ c, (bytesOf s).getD k 0 = c := ⟨_, rfl⟩
      rw [hcd] at hc hbyte hst
      obtain ⟨st, hstd⟩ : ∃ st, bareF ((bytesOf s).take k) = st := ⟨_, rfl⟩
      rw [hstd] at hst hlen ⊢
      obtain ⟨q, o⟩ := st
      have hsz : (strOfNums o).size ≤ k := by rw [strOfNums_size]; exact hlen
      have HST := Lib.hid hst
      have HB := Lib.hid hb
      have hc0 := hbyte.1
      have hc1 := hbyte.2
      simp only
      clear hst hstd hlen hb hcd
      by_cases hq : c = 34
      · subst hq
        have hcv := conv_one wr 34
        have hs1 : (strOfNums [34]).size = 1 := rfl
        have hbx : Below w.heap.size w (wr.alloc (.cells #[.int .u8 34] 5)) := HB.out.alloc HB.out.size _
        have HBX := Lib.hid hbx
        clear hbx
        cases q with
        | true =>
          go_wp2_with fail
          refine (xmlSpace_any 34 _ hbyte).mono ?_
          rintro e w1 ⟨rfl, rfl⟩
          have hx : xsp 34 = false := rfl
          rw [hx]
          clear hx
          go_wp2_with fail
          go_roundw
          case rel =>
            refine ⟨k + 1, by omega, by go_num, ?_⟩
            rw [HST.out]
            refine ⟨?_, rfl, HBX.out⟩
            rw [← strOfNums_snoc]
            rfl
          case measure => simp [intOf]; omega
        | false =>
          go_wp2_with fail
          go_roundw
          case rel =>
            refine ⟨k + 1, by omega, by go_num, ?_⟩
            rw [HST.out]
            refine ⟨?_, rfl, HBX.out⟩
            rw [← strOfNums_snoc]
            rfl
          case measure => simp [intOf]; omega
      · have hq' : ((c : Int) == 34) = false := by simpa using hq
        cases q with
        | true =>
          have hcv := conv_one wr c
          have hs1 : (strOfNums [c]).size = 1 := rfl
          have hbx : Below w.heap.size w (wr.alloc (.cells #[.int .u8 c] 5)) := HB.out.alloc HB.out.size _
          have HBX := Lib.hid hbx
          clear hbx
          go_wp2_with fail
          go_roundw
          case rel =>
            refine ⟨k + 1, by omega, by go_num, ?_⟩
            rw [HST.out, stepB]
            simp only [if_neg hq]
            refine ⟨?_, rfl, HBX.out⟩
            rw [← strOfNums_snoc]
            rfl
          case measure => simp [intOf]; omega
        | false =>
          by_cases hx : xsp c = true
          · go_wp2_with fail
            refine (xmlSpace_any c _ hbyte).mono ?_
            rw [hx]
            rintro e w1 ⟨rfl, rfl⟩
            go_wp2_with fail
            go_roundw
            case rel =>
              refine ⟨k + 1, by omega, by go_num, ?_⟩
              rw [HST.out, stepB]
              simp only [if_neg hq]
              rw [if_pos ⟨trivial, hx⟩]
              exact ⟨rfl, rfl, HB.out⟩
            case measure => simp [intOf]; omega
          · have hx' : xsp c = false := by simpa using hx
            clear hx
            by_cases hup : 65 ≤ c ∧ c ≤ 90
            · obtain ⟨u1, u2⟩ := hup
              have hcv := conv_one wr (c + 32)
              have hs1 : (strOfNums [c + 32]).size = 1 := rfl
              have hbx : Below w.heap.size w (wr.alloc (.cells #[.int .u8 (c + 32)] 5)) := HB.out.alloc HB.out.size _
              have HBX := Lib.hid hbx
              clear hbx
              go_wp2_with fail
              refine (xmlSpace_any c _ hbyte).mono ?_
              rw [hx']
              rintro e w1 ⟨rfl, rfl⟩
              go_wp2_with fail
              go_roundw
              case rel =>
                refine ⟨k + 1, by omega, by go_num, ?_⟩
                rw [HST.out, stepB]
                simp only [if_neg hq]
                rw [if_neg (fun hh => by rw [hx'] at hh; exact absurd hh.2 (by simp)), if_pos trivial, show low c = c + 32 from if_pos ⟨u1, u2⟩]
                refine ⟨?_, rfl, HBX.out⟩
                rw [← strOfNums_snoc]
              case measure => simp [intOf]; omega
            · have hlow : low c = c := if_neg hup
              have HLOW := Lib.hid hlow
              clear hlow
              by_cases u1 : 65 ≤ c
              · have u2 : ¬ c ≤ 90 := by omega
                have hcv := conv_one wr c
                have hs1 : (strOfNums [c]).size = 1 := rfl
                have hbx : Below w.heap.size w (wr.alloc (.cells #[.int .u8 c] 5)) := HB.out.alloc HB.out.size _
                have HBX := Lib.hid hbx
                clear hbx
                go_wp2_with fail
                refine (xmlSpace_any c _ hbyte).mono ?_
                rw [hx']
                rintro e w1 ⟨rfl, rfl⟩
                go_wp2_with fail
                go_roundw
                case rel =>
                  refine ⟨k + 1, by omega, by go_num, ?_⟩
                  rw [HST.out, stepB]
                  simp only [if_neg hq]
                  rw [if_neg (fun hh => by rw [hx'] at hh; exact absurd hh.2 (by simp)), if_pos trivial, HLOW.out]
                  refine ⟨?_, rfl, HBX.out⟩
                  rw [← strOfNums_snoc]
                case measure => simp [intOf]; omega
              · clear hup
                have hcv := conv_one wr c
                have hs1 : (strOfNums [c]).size = 1 := rfl
                have hbx : Below w.heap.size w (wr.alloc (.cells #[.int .u8 c] 5)) := HB.out.alloc HB.out.size _
                have HBX := Lib.hid hbx
                clear hbx
                go_wp2_with fail
                refine (xmlSpace_any c _ hbyte).mono ?_
                rw [hx']
                rintro e w1 ⟨rfl, rfl⟩
                go_wp2_with fail
                go_roundw
                case rel =>
                  refine ⟨k + 1, by omega, by go_num, ?_⟩
                  rw [HST.out, stepB]
                  simp only [if_neg hq]
                  rw [if_neg (fun hh => by rw [hx'] at hh; exact absurd hh.2 (by simp)), if_pos trivial, HLOW.out]
                  refine ⟨?_, rfl, HBX.out⟩
                  rw [← strOfNums_snoc]
                case measure => simp [intOf]; omega
    · have hke : k = s.size := by omega
      subst hke
      have hfin : bareS s = strOfNums (bareF ((bytesOf s).take s.size)).2 := by rw [List.take_of_length_le (by rw [bytesOf_length]; exact Nat.le_refl _)]; rfl
      have HF := Lib.hid hfin
      clear hfin
      go_wp2_with fail
      go_ret
      exact ⟨by rw [HF.out]; rfl, hb⟩

end Go.Proofs.YthfogblmcmlkhaaDoor
