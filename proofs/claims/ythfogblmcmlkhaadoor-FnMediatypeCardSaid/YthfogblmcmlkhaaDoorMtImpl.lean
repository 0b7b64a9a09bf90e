/-
  The contracts of minify.ZZMediatype and impl.Mediatype: the text that mt makes.
-/
import Derived.Test.YthfogblmcmlkhaaDoorMtWalk
import Derived.Deep.AppendLies
import Derived.Lib.ConvBytes
namespace Go.Proofs.YthfogblmcmlkhaaDoor
open Go.RowKit
set_option linter.unusedVariables false

theorem info_u8 : (Tryd.prog.info? 5).map (fun i => (i.zero, i.size, i.bytes)) = some (some (.int .u8 0), 1, 1) := by kernel_rfl

def ZMtPost (xs : List Int) (w : World) (e : Ending) (w' : World) : Prop :=
  ∃ (g cap : Nat), e = .returned (.slice (some ⟨g, 0, none⟩) (mt xs).length cap) ∧ (∀ j, j < (mt xs).length → w'.cell? ⟨g, j, none⟩ = some (.int .u8 ((mt xs).getD j 0))) ∧ Below w.heap.size w w'

theorem own_nil (W : World) (base : Nat) (e : TypeId) (size : Nat) : W.ownsRow base e size (.slice none 0 0) 0 [] := ⟨by simp, .inl ⟨rfl, rfl⟩⟩

/-- A row of the call's own, as a buffer. -/
theorem Buf.own {w : World} {base g n cap : Nat} {xs : List Int} (h : w.ownsRow base 5 1 (.slice (some ⟨g, 0, none⟩) n cap) n (xs.map (Value.int .u8))) (hn : xs.length = n) : n ≤ cap ∧ cap ≤ maxLen ∧ base ≤ g ∧ ∃ tail, Buf w g xs tail ∧ tail.length = cap - n := by
  rcases h.2 with ⟨h1, _⟩ | ⟨g', cap', cur, h1, hb, hh, hc, hm, hs, ht⟩
  · cases h1
  · injection h1 with h1 h2 h3
    injection h1 with h1
    injection h1 with h1
    subst h1 h3
    refine ⟨hc, hm, hb, cur.toList.drop n, ?_, by simp; omega⟩
    unfold Buf
    rw [hh]
    congr 2
    apply Array.ext'
    rw [Nat.mul_one] at ht
    rw [← ht]
    simp

set_option maxHeartbeats 800000 in
theorem ZZMediatype_any (h0 c0 : Nat) (xs : List Int) (w : World) (hsrc : ∀ j, j < xs.length → w.cell? ⟨h0, j, none⟩ = some (.int .u8 (xs.getD j 0))) (hn : 0 < xs.length) (hmax : xs.length ≤ 1000000) (hx : ∀ i, byte (xs.getD i 0)) (ht : Tbl w) (hw : 0 < w.heap.size) :
    Calls Tryd.prog 11 #[.slice (some ⟨h0, 0, none⟩) xs.length c0] w (ZMtPost xs w) := by
  obtain ⟨i0, hi, hz0, hz1, hz2⟩ := info_parts info_u8
  have hnews : ∀ j u, (xs.map (Value.int .u8))[j]? = some u → w.cell? ((⟨h0, 0, none⟩ : Addr).add j) = some u := by
    intro j u hu
    rw [List.getElem?_map] at hu
    by_cases hj : j < xs.length
    · rw [List.getElem?_eq_getElem hj] at hu
      have ha : (⟨h0, 0, none⟩ : Addr).add j = ⟨h0, j, none⟩ := by unfold Addr.add; split <;> simp_all
      rw [ha, hsrc j hj, List.getD_eq_getElem?_getD, List.getElem?_eq_getElem hj]
      simpa using hu
    · rw [List.getElem?_eq_none (by omega)] at hu
      simp at hu
  have hmt := mt_len xs hx
  have HX := Lib.hid hx
  have HNW := Lib.hid hnews
  clear hsrc hx hnews
  go_enter Tryd.func11, Tryd.ntmps11
  go_wp2_with (at_builtin; refine wpList_append_lies _ rfl _ _ _ rfl w.heap.size 5 i0 (.int .u8 0) 1 1 Tryd.underlying33 hi hz0 hz1 hz2 rfl (by omega) (.slice none 0 0) 0 [] rfl (own_nil _ _ _ _) ⟨h0, 0, none⟩ xs.length c0 (xs.map (Value.int .u8)) rfl (by simp) HNW.out (one_cells xs) hn (by unfold maxLen; omega) (by omega) (Nat.le_refl _) w.heap.size rfl ?_; intro g cap w1 hown hgrow hat hlt)
  have hg : g = w.heap.size := hat.elim (fun h => by simp [Value.ownBlock] at h) id
  simp only [Nat.zero_add, List.nil_append] at hown
  obtain ⟨hcap, hcm, _, tail, hb, _⟩ := Buf.own hown rfl
  have hbw : Below w.heap.size w w1 := (Below.refl _ _).grown hgrow (Nat.le_refl _) (by rintro k hk; simp [Value.ownBlock] at hk)
  have ht1 : Tbl w1 := ht.below hbw hw
  have HBW := Lib.hid hbw
  have HG := Lib.hid hg
  clear hown hgrow hat hbw hg hcm
  go_wp2_with fail
  refine (Mediatype_any g cap xs tail w1 hb hn hcap (by omega) HX.out ht1 (by rw [HG.out]; exact hw)).mono ?_
  rintro e w2 ⟨b', hl', rfl, htk, hb2, hbw2⟩
  have hbw3 : Below w.heap.size w w2 := HBW.out.trans (hbw2.mono (Nat.le_of_eq HG.out.symm))
  clear hb hbw2
  have HTK := Lib.hid htk
  have HL := Lib.hid hl'
  have HB2 := Lib.hid hb2
  have HB3 := Lib.hid hbw3
  clear htk hl' hb2 hbw3
  go_wp2_with fail
  go_ret
  refine ⟨g, cap, rfl, fun j hj => ?_, HB3.out⟩
  rw [HB2.out.cell j (by rw [HL.out]; omega)]
  congr 2
  rw [← HTK.out, List.getD_eq_getElem?_getD, List.getD_eq_getElem?_getD, List.getElem?_take, if_pos hj]

def bytesOf (s : ByteArray) : List Int := s.data.toList.map fun b => (b.toNat : Int)
theorem bytesOf_length (s : ByteArray) : (bytesOf s).length = s.size := by simp [bytesOf]
theorem bytesOf_byte (s : ByteArray) : ∀ k, byte ((bytesOf s).getD k 0) := by
  intro k
  unfold bytesOf
  rw [List.getD_eq_getElem?_getD, List.getElem?_map]
  cases h : s.data.toList[k]? with
  | none => exact ⟨by decide, by decide⟩
  | some v =>
    have := v.toNat_lt
    exact ⟨by simp, by simp; omega⟩
def mtS (s : ByteArray) : ByteArray := strOfNums (mt (bytesOf s))

set_option maxHeartbeats 800000 in
theorem implMediatype_any (s : ByteArray) (w : World) (hn : 0 < s.size) (hmax : s.size ≤ 1000000) (ht : Tbl w) (hw : 0 < w.heap.size) :
    Calls Tryd.prog 6 #[.string s] w fun e w' => e = .returned (.string (mtS s)) ∧ Below w.heap.size w w' := by
  have hl := bytesOf_length s
  have hcv := Lib.run_convert_string_bytes (P := Tryd.prog) w 9 33 5 s Tryd.underlying9 Tryd.underlying33 Tryd.underlying5
  have hbw : Below w.heap.size w (Lib.bytesWorld w 5 s) := ⟨rfl, rfl, rfl, by rw [Lib.bytesWorld_size]; omega, fun k hk => Lib.bytesWorld_at_old w _ s k hk⟩
  have hsrc : ∀ j, j < (bytesOf s).length → (Lib.bytesWorld w 5 s).cell? ⟨w.heap.size, j, none⟩ = some (.int .u8 ((bytesOf s).getD j 0)) := by
    intro j hj
    rw [Lib.bytesWorld_cell w _ s j (by omega)]
    unfold bytesOf at hj ⊢
    rw [List.getD_eq_getElem?_getD, List.getD_eq_getElem?_getD, List.getElem?_map, List.getElem?_eq_getElem (by simpa using hj)]
    rfl
  have hsz : (Lib.bytesWorld w 5 s).heap.size = w.heap.size + 1 := Lib.bytesWorld_size _ _ _
  have HL := Lib.hid hl
  have HBW := Lib.hid hbw
  have HS := Lib.hid hsrc
  have HSZ := Lib.hid hsz
  clear hl hbw hsrc hsz
  go_enter Tryd.func6, Tryd.ntmps6
  go_wp2_with fail
  rw [← HL.out]
  refine (ZZMediatype_any w.heap.size _ (bytesOf s) _ HS.out (by rw [HL.out]; exact hn) (by rw [HL.out]; exact hmax) (bytesOf_byte s) (ht.below HBW.out hw) (by rw [HSZ.out]; omega)).mono ?_
  rintro e w2 ⟨g, cap, rfl, hc, hb⟩
  clear hcv
  have hcv2 := run_convert_bytes_arg (P := Tryd.prog) (w := w2) 33 5 Tryd.underlying33 Tryd.underlying5 g 0 (mt (bytesOf s)).length cap (mt (bytesOf s)) rfl (fun i hi => by rw [Nat.zero_add]; exact hc i hi) 9 Tryd.underlying9
  have HB := Lib.hid (HBW.out.trans (hb.mono (by rw [HSZ.out]; omega)))
  clear hc hb
  go_wp2_with fail
  go_ret
  exact ⟨rfl, HB.out⟩

end Go.Proofs.YthfogblmcmlkhaaDoor
