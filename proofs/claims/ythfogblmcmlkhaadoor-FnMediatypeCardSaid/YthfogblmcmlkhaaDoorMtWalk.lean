/-
  The contracts of parse.IsWhitespace and minify.Mediatype: Mediatype computes mt.
-/
import Derived.Test.YthfogblmcmlkhaaDoorMtPure
import Derived.Deep.RegionLaw
namespace Go.Proofs.YthfogblmcmlkhaaDoor
open Go.RowKit
set_option linter.unusedVariables false

/-- The table of white space lies where the program's text lays it. -/
def Tbl (w : World) : Prop := ∀ x : Nat, x < 256 → w.cell? ⟨0, x, none⟩ = some (.bool (ws x))

theorem IsWs_any (x : Int) (w : World) (hx : byte x) (ht : Tbl w) :
    Calls Tryd.prog 16 #[.int .u8 x] w fun e w' => e = .returned (.bool (ws x)) ∧ w = w' := by
  obtain ⟨h0, h1⟩ := hx
  have hc := ht x.toNat (by omega)
  rw [show ((x.toNat : Nat) : Int) = x from by omega] at hc
  obtain ⟨b, hb⟩ : ∃ b, ws x = b := ⟨_, rfl⟩
  rw [hb] at hc ⊢
  have HB := Lib.hid hb
  clear hb ht
  go_enter Tryd.func16, Tryd.ntmps16
  go_wp2
  go_ret
  exact ⟨rfl, rfl⟩

theorem Tbl.below {w w' : World} {B : Nat} (h : Tbl w) (hb : Below B w w') (hB : 0 < B) : Tbl w' := fun x hx => (hb.cell (p := ⟨0, x, none⟩) hB).trans (h x hx)
theorem Tbl.grown {w w' : World} {h : Nat} (ht : Tbl w) (hg : w.grownBy w' (some h)) (hh : 0 < h) (hw : 0 < w.heap.size) : Tbl w' := fun x hx =>
  (World.cell?_of_block (hg.block 0 hw (by simp; omega))).trans (ht x hx)

def MtPost (h cap : Nat) (xs : List Int) (tail : List Value) (w : World) (e : Ending) (w' : World) : Prop :=
  ∃ b' : List Int, b'.length = xs.length ∧ e = .returned (.slice (some ⟨h, 0, none⟩) (mt xs).length cap) ∧ b'.take (mt xs).length = mt xs ∧ Buf w' h b' tail ∧ Below h w w'

theorem Buf.src {w : World} {h : Nat} {xs : List Int} {tail : List Value} (hb : Buf w h xs tail) (s e : Nat) (he : e ≤ xs.length) :
    ∀ i v, ((cut xs s e).map (Value.int .u8))[i]? = some v → w.cell? ((⟨h, s, none⟩ : Addr).add i) = some v := by
  intro i v hv
  rw [List.getElem?_map, cut_get _ _ _ _ he] at hv
  split at hv
  · rename_i hlt
    have hc := hb.cell (s + i) (by omega)
    rw [List.getElem?_eq_getElem (by omega)] at hv
    rw [List.getD_eq_getElem?_getD, List.getElem?_eq_getElem (by omega)] at hc
    have ha : (⟨h, s, none⟩ : Addr).add i = ⟨h, s + i, none⟩ := by unfold Addr.add; split <;> simp_all
    rw [ha, hc]
    simpa using hv
  · simp at hv
theorem Buf.splice {w : World} {h : Nat} {xs cs : List Int} {tail : List Value} {o : Nat} (hl : o + cs.length ≤ xs.length)
    (hb : w.heap[h]? = some (.cells (Go.splice (xs.map (Value.int .u8) ++ tail) o (cs.map (Value.int .u8))).toArray 5 (0, 0))) : Buf w h (Go.splice xs o cs) tail := by
  unfold Buf
  rw [hb]
  congr 3
  unfold Go.splice
  simp only [List.length_map, List.map_append, List.map_take, List.map_drop, List.append_assoc]
  rw [List.take_append_of_le_length (by simp; omega), List.drop_append_of_le_length (by simp; omega)]
theorem one_cells (cs : List Int) : ∀ v ∈ cs.map (Value.int .u8), v.oneCell' = true := by
  intro v hv
  obtain ⟨x, _, rfl⟩ := List.mem_map.1 hv
  rfl
theorem size_u8 : (Tryd.prog.info? 5).map (·.size) = some 1 := by kernel_rfl

set_option maxHeartbeats 1600000 in
theorem Mediatype_any (h cap : Nat) (xs : List Int) (tail : List Value) (w : World) (hb : Buf w h xs tail) (hn : 0 < xs.length) (hcap : xs.length ≤ cap) (hmax : xs.length ≤ 4611686018427387904) (hx : ∀ i, byte (xs.getD i 0)) (ht : Tbl w) (hh : 0 < h) :
    Calls Tryd.prog 15 #[.slice (some ⟨h, 0, none⟩) xs.length cap] w (MtPost h cap xs tail w) := by
  obtain ⟨n, hnn⟩ : ∃ n, n = xs.length := ⟨_, rfl⟩
  have hinv := runM_inv xs hx
  rw [← hnn] at hn hcap hinv hmax ⊢
  have HN := Lib.hid hnn
  have HINV := Lib.hid hinv
  clear hnn hinv
  go_enter Tryd.func15, Tryd.ntmps15
  go_wp2_with fail
  go_loopw [3, 4, 5, 6, 11] (fun v3 v4 v5 v6 v11 wr => ∃ k : Nat, k ≤ n ∧ v11 = .int .i64 k ∧ v3 = .int .i64 (runM xs k).j ∧ v4 = .bool (runM xs k).q ∧ v5 = .int .i64 (runM xs k).start ∧ v6 = .int .i64 (runM xs k).ls ∧ Buf wr h (runM xs k).b tail ∧ Below h w wr) (fun _ _ _ _ v11 _ => n - (intOf v11).toNat)
  case atStart => exact ⟨0, by omega, rfl, rfl, rfl, rfl, rfl, hb, Below.refl _ _⟩
  case round =>
    clear hb
    obtain ⟨k, hk, rfl, rfl, rfl, rfl, rfl, hb, hg⟩ := hrel
    obtain ⟨h1, h2, hjl, h3, h4, h5, h6, h7⟩ := HINV.out k hk
    by_cases hlt : k < n
    · clear hjl
      have hst : runM xs (k + 1) = step k (runM xs k) := rfl
      obtain ⟨st, hstd⟩ : ∃ st, runM xs k = st := ⟨_, rfl⟩
      rw [hstd] at hst hb h1 h2 h3 h4 h5 h6 h7 ⊢
      have HST := Lib.hid hst
      clear hst hstd
      obtain ⟨j, start, ls, q, b⟩ := st
      simp only at hb h1 h2 h3 h4 h5 h6 h7 ⊢
      have hcell := hb.cell k (by omega)
      have hbyte := h7 k
      obtain ⟨c, hc⟩ : ∃ c, b.getD k 0 = c := ⟨_, rfl⟩
      rw [hc] at hcell hbyte
      have hc0 := hbyte.1
      have hc1 := hbyte.2
      have HC := Lib.hid hc
      have HB := Lib.hid hb
      have HG := Lib.hid hg
      have H6 := Lib.hid h6
      have H7 := Lib.hid h7
      have HT := Lib.hid (ht.below hg hh)
      have hz := h2
      clear hc hb hg h2 h6 h7
      cases q with
      | false =>
        by_cases hw : ws c = true
        · by_cases hs : start = 0
          · obtain rfl : j = 0 := hz hs
            subst hs
            go_wp2_with fail
            refine (IsWs_any c _ hbyte HT.out).mono ?_
            rw [hw]
            rintro e w1 ⟨rfl, rfl⟩
            go_wp2_with fail
            go_roundw
            case rel =>
              refine ⟨k + 1, by omega, by go_num, ?_⟩
              rw [HST.out, step, if_pos (by rw [HC.out, hw]; simp), if_pos rfl]
              exact ⟨by simp, rfl, by go_num, rfl, HB.out, HG.out⟩
            case measure => simp [intOf]; omega
          · have hs' : ((start : Int) != 0) = true := by simp; omega
            clear hz
            go_wp2_with fail
            refine (IsWs_any c _ hbyte HT.out).mono ?_
            rw [hw]
            rintro e w1 ⟨rfl, rfl⟩
            have hcl := cut_length b start k h3 (by rw [H6.out]; omega)
            have hsrc := HB.out.src start k (by rw [H6.out]; omega)
            have h61 : j + (cut b start k).length ≤ b.length := by rw [hcl, H6.out]; omega
            have HCL := Lib.hid hcl
            have HSRC := Lib.hid hsrc
            have H61 := Lib.hid h61
            clear hcl hsrc h61
            have i1 : (0 : Int) ≤ (j : Int) := by omega
            have i2 : (j : Int) ≤ (n : Int) := by omega
            have i3 : (n : Int) ≤ (cap : Int) := by omega
            have i4 : (0 : Int) ≤ (start : Int) := by omega
            have i5 : (start : Int) ≤ (k : Int) := by omega
            have i6 : (k : Int) ≤ (cap : Int) := by omega
            have i7 : ¬ cap = j := by omega
            have i8 : ¬ cap = start := by omega
            go_wp2_with fail
            go_region_law (refine step_copy_splice rfl (.tmp 27) (.tmp 31) 33 33 rfl 5 Tryd.underlying33 size_u8 (some ⟨h, j, none⟩) (some ⟨h, start, none⟩) (n - j) (cap - j) (k - start) (cap - start) (by simp [Act.eval, Act.put]) (by simp [Act.eval, Act.put]) h j _ _ HB.out ((cut b start k).map (Value.int .u8)) (by rw [List.length_map, HCL.out]; exact (Nat.min_eq_left (by omega)).symm) (fun _ => ⟨rfl, ⟨h, start, none⟩, rfl, HSRC.out⟩) (by simp only [List.length_map, List.length_append]; have := H61.out; omega) (one_cells _) h w HG.out.drew (Nat.le_refl _) ?_; intro w4 hg4 hb4)
            have hbw : Buf w4 h (Go.splice b j (cut b start k)) tail := Buf.splice H61.out hg4.out
            have HBW := Lib.hid hbw
            have HB4 := Lib.hid hb4
            have hlen : (((cut b start k).length : Nat) : Int) = (k : Int) - (start : Int) := by rw [HCL.out]; omega
            clear hg4 hb4 hbw
            go_wp2_with fail
            go_roundw
            case rel =>
              refine ⟨k + 1, by omega, by go_num, ?_⟩
              rw [HST.out, step, if_pos (by rw [HC.out, hw]; simp), if_neg hs]
              exact ⟨by simp; omega, rfl, by go_num, rfl, HBW.out, HB4.out⟩
            case measure => simp [intOf]; omega
        · have hw' : ws c = false := by simpa using hw
          clear hw
          by_cases hq : c = 34
          · subst hq
            clear hz
            by_cases hls : k - ls < 1024
            · go_wp2_with fail
              refine (IsWs_any 34 _ hbyte HT.out).mono ?_
              rw [hw']
              rintro e w1 ⟨rfl, rfl⟩
              go_wp2_with fail
              refine (ToLower_any _ ls _ _ h b tail _ (fun _ => rfl) HB.out (by rw [H6.out]; omega) H7.out (by omega)).mono ?_
              rintro e w1 ⟨rfl, hb1, hg1⟩
              have hg2 : Below h w w1 := HG.out.grown hg1 (by have := hb1.lt; have := HB.out.lt; omega) (by rintro x hx; injection hx with hx; omega)
              have HB1 := Lib.hid hb1
              have HG1 := Lib.hid hg2
              clear hb1 hg1 hg2
              go_wp2_with fail
              go_roundw
              case rel =>
                refine ⟨k + 1, by omega, by go_num, ?_⟩
                rw [HST.out, step, if_neg (by rw [HC.out, hw']; simp), if_pos HC.out, if_pos rfl, if_pos hls]
                have e1 : ls + (k - ls) = k := by omega
                have hb1 := HB1.out
                rw [e1] at hb1
                exact ⟨rfl, rfl, rfl, rfl, hb1, HG1.out⟩
              case measure => simp [intOf]; omega
            · have hls' : ¬ (k : Int) - ls < 1024 := by omega
              go_wp2_with fail
              refine (IsWs_any 34 _ hbyte HT.out).mono ?_
              rw [hw']
              rintro e w1 ⟨rfl, rfl⟩
              go_wp2_with fail
              go_roundw
              case rel =>
                refine ⟨k + 1, by omega, by go_num, ?_⟩
                rw [HST.out, step, if_neg (by rw [HC.out, hw']; simp), if_pos HC.out, if_pos rfl, if_neg hls]
                exact ⟨rfl, rfl, rfl, rfl, HB.out, HG.out⟩
              case measure => simp [intOf]; omega
          · have hq' : ((c : Int) == 34) = false := by simpa using hq
            clear hz
            go_wp2_with fail
            refine (IsWs_any c _ hbyte HT.out).mono ?_
            rw [hw']
            rintro e w1 ⟨rfl, rfl⟩
            go_wp2_with fail
            go_roundw
            case rel =>
              refine ⟨k + 1, by omega, by go_num, ?_⟩
              rw [HST.out, step, if_neg (by rw [HC.out, hw']; simp), if_neg (by rw [HC.out]; exact hq)]
              exact ⟨rfl, rfl, rfl, rfl, HB.out, HG.out⟩
            case measure => simp [intOf]; omega
      | true =>
        clear hz
        by_cases hq : c = 34
        · subst hq
          go_wp2_with fail
          go_roundw
          case rel =>
            refine ⟨k + 1, by omega, by go_num, ?_⟩
            rw [HST.out, step, if_neg (by simp), if_pos (by rw [HC.out]), if_neg (by simp)]
            exact ⟨rfl, rfl, rfl, by simp; omega, HB.out, HG.out⟩
          case measure => simp [intOf]; omega
        · have hq' : ((c : Int) == 34) = false := by simpa using hq
          go_wp2_with fail
          go_roundw
          case rel =>
            refine ⟨k + 1, by omega, by go_num, ?_⟩
            rw [HST.out, step, if_neg (by simp), if_neg (by rw [HC.out]; exact hq)]
            exact ⟨rfl, rfl, rfl, rfl, HB.out, HG.out⟩
          case measure => simp [intOf]; omega
    · have hkn : k = n := by omega
      have hmt : mt xs = mtEnd n (runM xs n) := by rw [mt_eq, ← HN.out]
      subst hkn
      obtain ⟨st, hstd⟩ : ∃ st, runM xs k = st := ⟨_, rfl⟩
      rw [hstd] at hmt hb h1 h2 hjl h3 h4 h5 h6 h7 ⊢
      have HMT := Lib.hid hmt
      clear hmt hstd
      obtain ⟨j, start, ls, q, b⟩ := st
      simp only at hb h1 h2 hjl h3 h4 h5 h6 h7 ⊢
      have HB := Lib.hid hb
      have HG := Lib.hid hg
      have H6 := Lib.hid h6
      have H7 := Lib.hid h7
      have hz := h2
      clear hb hg h2 h6 h7 hlt hk
      by_cases hs : start = 0
      · have hj0 : j = 0 := hz hs
        subst hs hj0
        clear hz hjl
        by_cases hc : cap = ls
        · obtain rfl : cap = k := by omega
          subst hc
          go_wp2_with fail
          refine (ToLower_any _ cap 0 _ h b tail _ (fun hh => absurd hh (by omega)) HB.out (by rw [H6.out]; omega) H7.out (by omega)).mono ?_
          rintro e w1 ⟨rfl, hb1, hg1⟩
          have hg2 : Below h w w1 := HG.out.grown hg1 (by have := hb1.lt; have := HB.out.lt; omega) (by rintro x hx; injection hx with hx; omega)
          have HB1 := Lib.hid hb1
          have HG1 := Lib.hid hg2
          clear hb1 hg1 hg2
          go_wp2_with fail
          go_ret
          have hlen : (mt xs).length = cap := by rw [HMT.out]; simp [mtEnd, lowR_length, H6.out]
          refine ⟨_, ?_, by rw [hlen]; rfl, ?_, HB1.out, HG1.out⟩
          · rw [lowR_length, H6.out, HN.out]
          · rw [hlen, HMT.out]
            simp only [mtEnd, if_true]
            rw [List.take_of_length_le (by rw [lowR_length, H6.out]; omega)]
            rfl
        · have hc' : ¬ cap = ls := hc
          go_wp2_with fail
          refine (ToLower_any _ ls _ _ h b tail _ (fun _ => rfl) HB.out (by rw [H6.out]; omega) H7.out (by omega)).mono ?_
          rintro e w1 ⟨rfl, hb1, hg1⟩
          have hg2 : Below h w w1 := HG.out.grown hg1 (by have := hb1.lt; have := HB.out.lt; omega) (by rintro x hx; injection hx with hx; omega)
          have HB1 := Lib.hid hb1
          have HG1 := Lib.hid hg2
          clear hb1 hg1 hg2
          go_wp2_with fail
          go_ret
          have hlen : (mt xs).length = k := by rw [HMT.out]; simp [mtEnd, lowR_length, H6.out]
          have e1 : ls + (k - ls) = k := by omega
          have hb1 := HB1.out
          rw [e1] at hb1
          refine ⟨_, ?_, by rw [hlen]; rfl, ?_, hb1, HG1.out⟩
          · rw [lowR_length, H6.out, HN.out]
          · rw [hlen, HMT.out]
            simp only [mtEnd, if_true]
            rw [List.take_of_length_le (by rw [lowR_length, H6.out]; omega)]
      · have hs' : ((start : Int) != 0) = true := by simp; omega
        have hjs := hjl hs
        have hcl := cut_length b start k h3 (by rw [H6.out]; omega)
        have hsrc := HB.out.src start k (by rw [H6.out]; omega)
        have h61 : j + (cut b start k).length ≤ b.length := by rw [hcl, H6.out]; omega
        have HCL := Lib.hid hcl
        have HSRC := Lib.hid hsrc
        have H61 := Lib.hid h61
        clear hcl hsrc h61 hz hjl
        have i1 : (0 : Int) ≤ (j : Int) := by omega
        have i2 : (j : Int) ≤ (k : Int) := by omega
        have i3 : (k : Int) ≤ (cap : Int) := by omega
        have i4 : (0 : Int) ≤ (start : Int) := by omega
        have i5 : (start : Int) ≤ (k : Int) := by omega
        have i7 : ¬ cap = j := by omega
        by_cases hc : cap = start
        · obtain rfl : cap = k := by omega
          subst hc
          have hz0 : cut b cap cap = [] := List.eq_nil_of_length_eq_zero (by rw [HCL.out]; omega)
          have HZ := Lib.hid hz0
          clear hz0
          go_wp2_with fail
          go_region_law (refine step_copy_splice rfl (.tmp 65) (.tmp 68) 33 33 rfl 5 Tryd.underlying33 size_u8 (some ⟨h, j, none⟩) (some ⟨h, 0, none⟩) (cap - j) (cap - j) 0 0 (by simp [Act.eval, Act.put]) (by simp [Act.eval, Act.put]) h j _ _ HB.out [] rfl (fun hh => absurd hh (by simp)) (by simp only [List.length_nil, List.length_append, List.length_map]; have := H61.out; omega) (fun _ hv => absurd hv (by simp)) h w HG.out.drew (Nat.le_refl _) ?_; intro w4 hg4 hb4)
          have hbw : Buf w4 h (Go.splice b j (cut b cap cap)) tail := Buf.splice H61.out (by rw [HZ.out]; exact hg4.out)
          have HBW := Lib.hid hbw
          have HB4 := Lib.hid hb4
          clear hg4 hb4 hbw
          have i9 : (ls : Int) ≤ (j : Int) := by omega
          have i10 : ¬ cap = ls := by omega
          go_wp2_with fail
          refine (ToLower_any _ ls _ _ h (Go.splice b j (cut b cap cap)) tail _ (fun _ => rfl) HBW.out (by rw [length_splice _ _ _ H61.out, H6.out]; omega) (splice_cut_byte H7.out _ _ _ h3 (by rw [H6.out]; omega) h1) (by omega)).mono ?_
          rintro e w5 ⟨rfl, hb5, hg5⟩
          have hg6 : Below h w w5 := HB4.out.grown hg5 (by have := HBW.out.lt; omega) (by rintro x hx; injection hx with hx; omega)
          have HB5 := Lib.hid hb5
          have HG6 := Lib.hid hg6
          clear hb5 hg5 hg6
          go_wp2_with fail
          go_ret
          have hl5 : (lowR ls (j + (cap - cap)) (Go.splice b j (cut b cap cap))).length = cap := by rw [lowR_length, length_splice _ _ _ H61.out, H6.out]
          have hlen2 : (mt xs).length = j + (cap - cap) := by rw [HMT.out]; simp only [mtEnd]; rw [if_neg hs, List.length_take, hl5]; omega
          have e1 : ls + (j - ls) = j := by omega
          have e2 : j + (cap - cap) = j := by omega
          have hb5 := HB5.out
          rw [e1] at hb5
          rw [e2] at hl5 hlen2
          refine ⟨_, ?_, by rw [hlen2]; rfl, ?_, hb5, HG6.out⟩
          · rw [hl5, HN.out]
          · rw [hlen2, HMT.out]
            simp only [mtEnd]
            rw [if_neg hs, e2]
        · have i8 : ¬ cap = start := hc
          go_wp2_with fail
          go_region_law (refine step_copy_splice rfl (.tmp 65) (.tmp 68) 33 33 rfl 5 Tryd.underlying33 size_u8 (some ⟨h, j, none⟩) (some ⟨h, start, none⟩) (k - j) (cap - j) (k - start) (cap - start) (by simp [Act.eval, Act.put]) (by simp [Act.eval, Act.put]) h j _ _ HB.out ((cut b start k).map (Value.int .u8)) (by rw [List.length_map, HCL.out]; exact (Nat.min_eq_left (by omega)).symm) (fun _ => ⟨rfl, ⟨h, start, none⟩, rfl, HSRC.out⟩) (by simp only [List.length_map, List.length_append]; have := H61.out; omega) (one_cells _) h w HG.out.drew (Nat.le_refl _) ?_; intro w4 hg4 hb4)
          have hbw : Buf w4 h (Go.splice b j (cut b start k)) tail := Buf.splice H61.out hg4.out
          have HBW := Lib.hid hbw
          have HB4 := Lib.hid hb4
          have hlen : (((cut b start k).length : Nat) : Int) = (k : Int) - (start : Int) := by rw [HCL.out]; omega
          clear hg4 hb4 hbw
          have i9 : (ls : Int) ≤ (j : Int) + ((k : Int) - (start : Int)) := by omega
          have i10 : ¬ cap = ls := by omega
          go_wp2_with fail
          refine (ToLower_any _ ls _ _ h (Go.splice b j (cut b start k)) tail _ (fun _ => rfl) HBW.out (by rw [length_splice _ _ _ H61.out, H6.out]; omega) (splice_cut_byte H7.out _ _ _ h3 (by rw [H6.out]; omega) h1) (by omega)).mono ?_
          rintro e w5 ⟨rfl, hb5, hg5⟩
          have hg6 : Below h w w5 := HB4.out.grown hg5 (by have := HBW.out.lt; omega) (by rintro x hx; injection hx with hx; omega)
          have HB5 := Lib.hid hb5
          have HG6 := Lib.hid hg6
          clear hb5 hg5 hg6
          go_wp2_with fail
          go_ret
          have hl5 : (lowR ls (j + (k - start)) (Go.splice b j (cut b start k))).length = k := by rw [lowR_length, length_splice _ _ _ H61.out, H6.out]
          have hlen2 : (mt xs).length = j + (k - start) := by rw [HMT.out]; simp only [mtEnd]; rw [if_neg hs, List.length_take, hl5]; omega
          have e1 : ls + (j + (k - start) - ls) = j + (k - start) := by omega
          have hb5 := HB5.out
          rw [e1] at hb5
          refine ⟨_, ?_, by rw [hlen2]; rfl, ?_, hb5, HG6.out⟩
          · rw [hl5, HN.out]
          · rw [hlen2, HMT.out]
            simp only [mtEnd]
            rw [if_neg hs]

end Go.Proofs.YthfogblmcmlkhaaDoor
