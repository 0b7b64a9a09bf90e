/-
  The contracts of the readers small parts, of the parsers white space, and the plain units of strings.
-/
import Derived.Test.YthoekplablhgfaaGreatDoorMBase
import Derived.Laws.BytesArg
import Derived.Lib.Strings
import Derived.Test.YthoekplablhgfaaGreatDoorMText
import Derived.Deep.DeepCutAuto
import Derived.Deep.CutBlock
import Derived.Deep.QuietTactic
import Derived.IntWalk

/- Bytes -/
namespace Go.Proofs.YthoekplablhgfaaGreatDoor
open Go.RowKit
set_option linter.unusedVariables false

def byteN (x : Int) : Prop := 0 ≤ x ∧ x ≤ 255
def bytesL (s : ByteArray) : List Int := s.data.toList.map fun b => (b.toNat : Int)
theorem bytesL_length (s : ByteArray) : (bytesL s).length = s.size := by simp [bytesL]
theorem bytesL_byte (s : ByteArray) : ∀ x ∈ bytesL s, byteN x := by
  intro x hx
  obtain ⟨b, _, rfl⟩ := List.mem_map.1 hx
  have := b.toNat_lt
  exact ⟨by omega, by omega⟩
theorem bytesL_get (s : ByteArray) (k : Nat) (h : k < s.size) : (bytesL s)[k]? = some ((s[k]'h).toNat : Int) := by
  unfold bytesL
  have h' : k < s.data.toList.length := by simpa using h
  rw [List.getElem?_map, List.getElem?_eq_getElem h']
  rfl
theorem bytesL_append (a b : ByteArray) : bytesL (a ++ b) = bytesL a ++ bytesL b := by
  unfold bytesL
  rw [ByteArray.data_append, Array.toList_append, List.map_append]
theorem bytesL_str {xs : List Int} (h : ∀ x ∈ xs, byteN x) : bytesL (strOfNums xs) = xs := by
  unfold bytesL strOfNums
  simp only [List.map_map]
  conv => rhs; rw [← List.map_id xs]
  refine List.map_congr_left fun x hx => ?_
  obtain ⟨h0, h1⟩ := h x hx
  simp only [Function.comp, id, UInt8.toNat_ofNat']
  omega
theorem str_bytesL (s : ByteArray) : strOfNums (bytesL s) = s := by
  unfold bytesL strOfNums
  apply ByteArray.ext
  apply Array.ext'
  simp only [List.map_map]
  conv => rhs; rw [← List.map_id s.data.toList]
  refine List.map_congr_left fun x _ => ?_
  simp [Function.comp]
theorem str_get {xs : List Int} (k : Nat) (h : k < (strOfNums xs).size) (hb : ∀ x ∈ xs, byteN x) : (((strOfNums xs)[k]'h).toNat : Int) = xs.getD k 0 := by
  have h1 := bytesL_get (strOfNums xs) k h
  rw [bytesL_str hb] at h1
  rw [List.getD_eq_getElem?_getD, h1]
  rfl
theorem str_extract (xs : List Int) (a b : Nat) : (strOfNums xs).extract a b = strOfNums ((xs.take b).drop a) := by
  unfold strOfNums
  apply ByteArray.ext
  apply Array.ext'
  simp [ByteArray.data_extract, List.extract_eq_take_drop, List.map_take, List.map_drop, List.drop_take]
theorem bytesL_drop (s : ByteArray) (k : Nat) (h : k < s.size) : (bytesL s).drop k = ((s[k]'h).toNat : Int) :: (bytesL s).drop (k + 1) := by
  have hl : k < (bytesL s).length := by rw [bytesL_length]; exact h
  rw [List.drop_eq_getElem_cons hl]
  congr 1
  have := bytesL_get s k h
  rw [List.getElem?_eq_getElem hl] at this
  exact Option.some.inj this

end Go.Proofs.YthoekplablhgfaaGreatDoor

/- JRead -/
namespace Go.Proofs.YthoekplablhgfaaGreatDoor
open Go.RowKit
set_option linter.unusedVariables false

/-- Block g reads the text s, from place p on, d deep. -/
def Rd (w : World) (g : Nat) (s : ByteArray) (p d : Nat) : Prop :=
  w.heap[g]? = some (.cells #[.string s, .int .i64 (p : Nat), .int .i64 (d : Nat)] 42 (0, 0))
theorem Rd.c0 {w : World} {g p d : Nat} {s : ByteArray} (h : Rd w g s p d) : w.cell? ⟨g, 0, none⟩ = some (.string s) := by rw [cell_of_row w g 0 _ _ _ h]; rfl
theorem Rd.c1 {w : World} {g p d : Nat} {s : ByteArray} (h : Rd w g s p d) : w.cell? ⟨g, 1, none⟩ = some (.int .i64 (p : Nat)) := by rw [cell_of_row w g 1 _ _ _ h]; rfl
theorem Rd.c2 {w : World} {g p d : Nat} {s : ByteArray} (h : Rd w g s p d) : w.cell? ⟨g, 2, none⟩ = some (.int .i64 (d : Nat)) := by rw [cell_of_row w g 2 _ _ _ h]; rfl
theorem Rd.fz {w : World} {g p d : Nat} {s : ByteArray} (h : Rd w g s p d) (k : Nat) : w.frozen? ⟨g, k, none⟩ = false := by
  simp [World.frozen?, show w.heap[g]? = _ from h]
theorem Rd.at_ {w : World} {g p d : Nat} {s : ByteArray} (h : Rd w g s p d) (q : Nat) : Rd (w.setCell ⟨g, 1, none⟩ (.int .i64 (q : Nat))) g s q d := (heap_set (show w.heap[g]? = _ from h) _).trans rfl
theorem Rd.deep {w : World} {g p d : Nat} {s : ByteArray} (h : Rd w g s p d) (q : Nat) : Rd (w.setCell ⟨g, 2, none⟩ (.int .i64 (q : Nat))) g s p q := (heap_set (show w.heap[g]? = _ from h) _).trans rfl
theorem Rd.lt {w : World} {g p d : Nat} {s : ByteArray} (h : Rd w g s p d) : g < w.heap.size := (Array.getElem?_eq_some_iff.1 (show w.heap[g]? = _ from h)).1
theorem Rd.keep {w w' : World} {g p d : Nat} {s : ByteArray} (h : Rd w g s p d) (hk : w'.heap[g]? = w.heap[g]?) : Rd w' g s p d := hk.trans h
/-- The byte at place p; none: 0. -/
def byteAt (s : ByteArray) (p : Nat) : Int := (bytesL s).getD p 0
theorem byteAt_get (s : ByteArray) (p : Nat) (h : p < s.size) : ((s[p]'h).toNat : Int) = byteAt s p := by
  unfold byteAt
  rw [List.getD_eq_getElem?_getD, bytesL_get s p h]
  rfl
theorem byteAt_end (s : ByteArray) (p : Nat) (h : ¬ p < s.size) : byteAt s p = 0 := by
  unfold byteAt
  rw [List.getD_eq_getElem?_getD, List.getElem?_eq_none (by rw [bytesL_length]; omega)]
  rfl

set_option maxHeartbeats 1600000 in
theorem peek_at (g p d : Nat) (s : ByteArray) (w : World) (h : Rd w g s p d) (hs : s.size ≤ 1000000) :
    Calls Tryz.prog 27 #[.pointer (some ⟨g, 0, none⟩)] w fun e w' => e = .returned (.int .u8 (byteAt s p)) ∧ w.grownBy w' none := by
  have k0 := h.c0
  have k1 := h.c1
  have H := Lib.hid h
  clear h
  by_cases hp : p < s.size
  · have hc := byteAt_get s p hp
    obtain ⟨c, hcd⟩ : ∃ c, byteAt s p = c := ⟨_, rfl⟩
    rw [hcd] at hc ⊢
    clear hcd
    go_enter Tryz.func27, Tryz.ntmps27
    go_wp2
    go_region
    go_wp2
    go_region
    go_wp2
    go_ret
    exact ⟨rfl, ⟨rfl, rfl, rfl, Nat.le_refl _, fun _ _ _ => rfl⟩⟩
  · have hc := byteAt_end s p hp
    rw [hc]
    clear hc
    go_enter Tryz.func27, Tryz.ntmps27
    go_wp2
    go_region
    go_wp2
    go_ret
    exact ⟨rfl, ⟨rfl, rfl, rfl, Nat.le_refl _, fun _ _ _ => rfl⟩⟩

theorem grownBy_drewR {w w' : World} {r : Option Nat} (h : w.grownBy w' r) : w.grownBy w'.drew r := ⟨h.os, h.tape, h.output, h.size, h.block⟩
def wsb (c : Int) : Prop := c = 32 ∨ c = 9 ∨ c = 10 ∨ c = 13
instance (c : Int) : Decidable (wsb c) := by unfold wsb; exact inferInstance
def rdAt (w : World) (g : Nat) : Nat := match w.cell? ⟨g, 1, none⟩ with
  | some (.int _ q) => q.toNat
  | _ => 0
theorem Rd.rdAt {w : World} {g p d : Nat} {s : ByteArray} (h : Rd w g s p d) : Go.Proofs.YthoekplablhgfaaGreatDoor.rdAt w g = p := by
  unfold Go.Proofs.YthoekplablhgfaaGreatDoor.rdAt
  rw [h.c1]
  simp

set_option maxHeartbeats 3200000 in
theorem space_at (g p d : Nat) (s : ByteArray) (w : World) (h : Rd w g s p d) (hs : s.size ≤ 1000000) (hp : p ≤ s.size) :
    Calls Tryz.prog 14 #[.pointer (some ⟨g, 0, none⟩)] w fun e w' => e = .returned (.tuple #[]) ∧ ∃ q, p ≤ q ∧ q ≤ s.size ∧ (∀ i, p ≤ i → i < q → wsb (byteAt s i)) ∧ ¬ (q < s.size ∧ wsb (byteAt s q)) ∧ Rd w' g s q d ∧ w.grownBy w' (some g) := by
  have H := Lib.hid h
  clear h
  go_enter Tryz.func14, Tryz.ntmps14
  go_wp2_with fail
  go_loopw [2] (fun v2 wr => ∃ q, p ≤ q ∧ q ≤ s.size ∧ RowKit.Hid (∀ i, p ≤ i → i < q → wsb (byteAt s i)) ∧ RowKit.Hid (Rd wr g s q d) ∧ RowKit.Hid (w.grownBy wr (some g))) (fun _ wr => s.size - rdAt wr g)
  case atStart => exact ⟨p, by omega, hp, Lib.hid (fun i h1 h2 => by omega), H, Lib.hid (grownBy_refl' _ _)⟩
  case round =>
    obtain ⟨q, hq0, hq1, HW, HR, HG⟩ := hrel
    have k0 := HR.out.c0
    have k1 := HR.out.c1
    have kf := HR.out.fz 1
    by_cases hlt : q < s.size
    · have hc := byteAt_get s q hlt
      obtain ⟨c, hcd⟩ : ∃ c, byteAt s q = c := ⟨_, rfl⟩
      rw [hcd] at hc
      have HCD := Lib.hid hcd
      clear hcd
      by_cases hw : wsb c
      · rcases hw with rfl | rfl | rfl | rfl
        · go_wp2_with fail
          go_region
          go_wp2_with fail
          go_roundw
          case rel =>
            refine ⟨q + 1, by omega, by omega, Lib.hid (fun i h1 h2 => ?_), Lib.hid (HR.out.at_ (q + 1)), Lib.hid (grownBy_trans HG.out (grownBy_drew (grownBy_set _ g 1 _)))⟩
            rcases Nat.lt_or_ge i q with h3 | h3
            · exact HW.out i h1 h3
            · obtain rfl : i = q := by omega
              rw [HCD.out]
              unfold wsb
              omega
          case measure =>
            have e := Rd.rdAt (show Rd (wr.setCell ⟨g, 1, none⟩ (.int .i64 ((q : Int) + 1))).drew g s (q + 1) d from HR.out.at_ (q + 1))
            rw [HR.out.rdAt, e]
            omega
        · go_wp2_with fail
          go_region
          go_wp2_with fail
          go_roundw
          case rel =>
            refine ⟨q + 1, by omega, by omega, Lib.hid (fun i h1 h2 => ?_), Lib.hid (HR.out.at_ (q + 1)), Lib.hid (grownBy_trans HG.out (grownBy_drew (grownBy_set _ g 1 _)))⟩
            rcases Nat.lt_or_ge i q with h3 | h3
            · exact HW.out i h1 h3
            · obtain rfl : i = q := by omega
              rw [HCD.out]
              unfold wsb
              omega
          case measure =>
            have e := Rd.rdAt (show Rd (wr.setCell ⟨g, 1, none⟩ (.int .i64 ((q : Int) + 1))).drew g s (q + 1) d from HR.out.at_ (q + 1))
            rw [HR.out.rdAt, e]
            omega
        · go_wp2_with fail
          go_region
          go_wp2_with fail
          go_roundw
          case rel =>
            refine ⟨q + 1, by omega, by omega, Lib.hid (fun i h1 h2 => ?_), Lib.hid (HR.out.at_ (q + 1)), Lib.hid (grownBy_trans HG.out (grownBy_drew (grownBy_set _ g 1 _)))⟩
            rcases Nat.lt_or_ge i q with h3 | h3
            · exact HW.out i h1 h3
            · obtain rfl : i = q := by omega
              rw [HCD.out]
              unfold wsb
              omega
          case measure =>
            have e := Rd.rdAt (show Rd (wr.setCell ⟨g, 1, none⟩ (.int .i64 ((q : Int) + 1))).drew g s (q + 1) d from HR.out.at_ (q + 1))
            rw [HR.out.rdAt, e]
            omega
        · go_wp2_with fail
          go_region
          go_wp2_with fail
          go_roundw
          case rel =>
            refine ⟨q + 1, by omega, by omega, Lib.hid (fun i h1 h2 => ?_), Lib.hid (HR.out.at_ (q + 1)), Lib.hid (grownBy_trans HG.out (grownBy_drew (grownBy_set _ g 1 _)))⟩
            rcases Nat.lt_or_ge i q with h3 | h3
            · exact HW.out i h1 h3
            · obtain rfl : i = q := by omega
              rw [HCD.out]
              unfold wsb
              omega
          case measure =>
            have e := Rd.rdAt (show Rd (wr.setCell ⟨g, 1, none⟩ (.int .i64 ((q : Int) + 1))).drew g s (q + 1) d from HR.out.at_ (q + 1))
            rw [HR.out.rdAt, e]
            omega
      · have f1 : (c == 32) = false := by simp; exact fun e => hw (.inl e)
        have f2 : (c == 9) = false := by simp; exact fun e => hw (.inr (.inl e))
        have f3 : (c == 10) = false := by simp; exact fun e => hw (.inr (.inr (.inl e)))
        have f4 : (c == 13) = false := by simp; exact fun e => hw (.inr (.inr (.inr e)))
        have HNW := Lib.hid hw
        clear hw
        go_wp2_with fail
        go_region
        go_wp2_with fail
        go_end0
        exact ⟨rfl, q, hq0, hq1, HW.out, fun hh => HNW.out (by rw [← HCD.out]; exact hh.2), HR.out, grownBy_drewR HG.out⟩
    · go_wp2_with fail
      go_region
      go_wp2_with fail
      go_end0
      exact ⟨rfl, q, hq0, hq1, HW.out, fun hh => hlt hh.1, HR.out, grownBy_drewR HG.out⟩

end Go.Proofs.YthoekplablhgfaaGreatDoor

/- JWhite -/
namespace Go.Proofs.YthoekplablhgfaaGreatDoor
open Go.RowKit
set_option linter.unusedVariables false

/-- The bytes l lie in xs from place p on. -/
def LiesL (xs : List Int) (p : Nat) (l : List Int) : Prop := p + l.length ≤ xs.length ∧ ∀ j, j < l.length → xs.getD (p + j) 0 = l.getD j 0
theorem LiesL.head {s : List Int} {p : Nat} {c : Int} {l : List Int} (h : LiesL s p (c :: l)) : p < s.length ∧ s.getD p 0 = c := by
  have h1 := h.1
  simp at h1
  have h2 := h.2 0 (by simp)
  exact ⟨by omega, h2⟩
theorem LiesL.tail {s : List Int} {p : Nat} {c : Int} {l : List Int} (h : LiesL s p (c :: l)) : LiesL s (p + 1) l := by
  have h1 := h.1
  simp at h1
  refine ⟨by omega, fun j hj => ?_⟩
  have h2 := h.2 (j + 1) (by simp; omega)
  rw [show p + 1 + j = p + (j + 1) from by omega, h2, List.getD_cons_succ]
theorem LiesL.drop {s : List Int} {p : Nat} : ∀ {a b : List Int}, LiesL s p (a ++ b) → LiesL s (p + a.length) b
  | [], _, h => h
  | c :: a, b, h => by
    have := LiesL.drop (a := a) (LiesL.tail h)
    rw [List.length_cons, show p + (a.length + 1) = p + 1 + a.length from by omega]
    exact this
theorem LiesL.left {s : List Int} {p : Nat} {a b : List Int} (h : LiesL s p (a ++ b)) : LiesL s p a := by
  have h1 := h.1
  rw [List.length_append] at h1
  refine ⟨by omega, fun j hj => ?_⟩
  rw [h.2 j (by rw [List.length_append]; omega), List.getD_eq_getElem?_getD, List.getElem?_append_left hj, List.getD_eq_getElem?_getD]
theorem getD_in {l : List Int} {k : Nat} (h : k < l.length) : l.getD k 0 ∈ l := by
  rw [List.getD_eq_getElem?_getD, List.getElem?_eq_getElem h]
  exact List.getElem_mem h
/-- The parser at block p: input z, a stack of states, whether a comma is due. -/
def Par (w : World) (p z : Nat) (sv : Value) (nc : Bool) : Prop :=
  w.heap[p]? = some (.cells #[.pointer (some ⟨z, 0, none⟩), sv, .nilIface, .bool nc] 111 (0, 0))
section
variable {w w' : World} {p z : Nat} {sv : Value} {nc : Bool}
theorem Par.c0 (i : Par w p z sv nc) : w.cell? ⟨p, 0, none⟩ = some (.pointer (some ⟨z, 0, none⟩)) := by rw [cell_of_row w p 0 _ _ _ i]; rfl
theorem Par.c1 (i : Par w p z sv nc) : w.cell? ⟨p, 1, none⟩ = some sv := by rw [cell_of_row w p 1 _ _ _ i]; rfl
theorem Par.c2 (i : Par w p z sv nc) : w.cell? ⟨p, 2, none⟩ = some .nilIface := by rw [cell_of_row w p 2 _ _ _ i]; rfl
theorem Par.c3 (i : Par w p z sv nc) : w.cell? ⟨p, 3, none⟩ = some (.bool nc) := by rw [cell_of_row w p 3 _ _ _ i]; rfl
theorem Par.fz (i : Par w p z sv nc) (k : Nat) : w.frozen? ⟨p, k, none⟩ = false := by simp [World.frozen?, show w.heap[p]? = _ from i]
theorem Par.keep (i : Par w p z sv nc) (hk : w'.heap[p]? = w.heap[p]?) : Par w' p z sv nc := hk.trans i
theorem Par.lt (i : Par w p z sv nc) : p < w.heap.size := (Array.getElem?_eq_some_iff.1 (show w.heap[p]? = _ from i)).1
theorem Par.comma (i : Par w p z sv nc) (b : Bool) : Par (w.setCell ⟨p, 3, none⟩ (.bool b)) p z sv b := (heap_set (show w.heap[p]? = _ from i) _).trans rfl
theorem Par.stack (i : Par w p z sv nc) (v : Value) : Par (w.setCell ⟨p, 1, none⟩ v) p z v nc := (heap_set (show w.heap[p]? = _ from i) _).trans rfl
end
theorem grownBy_none' {w w' : World} {g : Nat} (h : w.grownBy w' none) : w.grownBy w' (some g) := ⟨h.os, h.tape, h.output, h.size, fun k hk _ => h.block k hk (by simp)⟩
def inAt (w : World) (z : Nat) : Nat := match w.cell? ⟨z, 1, none⟩ with
  | some (.int _ q) => q.toNat
  | _ => 0
theorem Inp.inAt {w : World} {z h n cap pos st : Nat} {rf : Value} (i : Inp w z h n cap pos st rf) : Go.Proofs.YthoekplablhgfaaGreatDoor.inAt w z = pos := by
  unfold Go.Proofs.YthoekplablhgfaaGreatDoor.inAt
  rw [i.c1]
  simp

set_option maxRecDepth 100000 in
set_option maxHeartbeats 1600000 in
theorem white_at (p z h n cap pos st : Nat) (rf sv : Value) (nc : Bool) (xs ws l : List Int) (c : Int) (tail : List Value) (w : World) (hp : Par w p z sv nc) (hi : Inp w z h n cap pos st rf) (hb : Buf w h xs tail) (hn : xs.length = n) (hs : n ≤ 1000000) (hpz : p ≠ z) (hhz : h ≠ z) (hw : JWs ws) (hl : LiesL xs pos (ws ++ c :: l)) (hc : ¬ wsb c) :
    Calls Tryz.prog 50 #[.pointer (some ⟨p, 0, none⟩)] w fun e w' => e = .returned (.tuple #[]) ∧ Inp w' z h n cap (pos + ws.length) st rf ∧ w.grownBy w' (some z) := by
  have HP := Lib.hid hp
  have HI := Lib.hid hi
  have HB := Lib.hid hb
  have HW := Lib.hid hw
  have HL := Lib.hid hl
  have f1 : (c != 32) = true := by simp; exact fun e => hc (.inl e)
  have f2 : (c != 9) = true := by simp; exact fun e => hc (.inr (.inl e))
  have f3 : (c != 10) = true := by simp; exact fun e => hc (.inr (.inr (.inl e)))
  have f4 : (c != 13) = true := by simp; exact fun e => hc (.inr (.inr (.inr e)))
  have HF := Lib.hid (And.intro f1 (And.intro f2 (And.intro f3 f4)))
  clear hp hi hb hw hl hc f1 f2 f3 f4
  go_enter Tryz.func50, Tryz.ntmps50
  go_wp2_with fail
  go_loopw [2] (fun _ wr => ∃ k : Nat, k ≤ ws.length ∧ RowKit.Hid (Inp wr z h n cap (pos + k) st rf) ∧ RowKit.Hid (w.grownBy wr (some z))) (fun _ wr => pos + ws.length - inAt wr z)
  case atStart => exact ⟨0, by omega, HI, Lib.hid ⟨rfl, rfl, rfl, Nat.le_refl _, fun _ _ _ => rfl⟩⟩
  case round =>
    obtain ⟨k, hk, HIR, HG⟩ := hrel
    have hpr := HP.out.keep (HG.out.block p HP.out.lt (fun e => hpz (by injection e)))
    have hbr := HB.out.keep (HG.out.block h HB.out.lt (fun e => hhz (by injection e)))
    have k0 := hpr.c0
    have HBR := Lib.hid hbr
    clear hpr hbr
    have hll := HL.out.1
    rw [List.length_append, List.length_cons] at hll
    have hbyte := HL.out.2 k (by rw [List.length_append, List.length_cons]; omega)
    go_wp2_with fail
    refine (Peek_at z h n cap (pos + k) st 0 rf xs tail wr HIR.out HBR.out (by omega) hn hs (by omega)).mono ?_
    rintro e w1 ⟨rfl, rfl⟩
    rw [Nat.add_zero, hbyte]
    clear hbyte
    by_cases hlt : k < ws.length
    · have hx : (ws ++ c :: l).getD k 0 ∈ ws := by
        rw [List.getD_eq_getElem?_getD, List.getElem?_append_left hlt, ← List.getD_eq_getElem?_getD]
        exact getD_in hlt
      obtain ⟨a, ha⟩ : ∃ a, (ws ++ c :: l).getD k 0 = a := ⟨_, rfl⟩
      rw [ha] at hx ⊢
      have hws := HW.out a hx
      clear ha hx
      rcases hws with rfl | rfl | rfl | rfl
      all_goals
        go_wp2_with fail
        refine (Move_at z h n cap (pos + k) st (pos + (k + 1)) 1 rf wr HIR.out (by omega) (by omega) (by omega)).mono ?_
        rintro e w2 ⟨rfl, hi2, hg2⟩
        have HI2 := Lib.hid hi2
        have HG2 := Lib.hid (grownBy_trans HG.out hg2)
        clear hi2 hg2
        go_wp2_with fail
        go_roundw
        case rel => exact ⟨k + 1, by omega, HI2, HG2⟩
        case measure => rw [HI2.out.inAt, HIR.out.inAt]; omega
    · obtain rfl : k = ws.length := by omega
      have e1 : (ws ++ c :: l).getD ws.length 0 = c := by
        rw [List.getD_eq_getElem?_getD, List.getElem?_append_right (Nat.le_refl _), Nat.sub_self]
        rfl
      rw [e1]
      obtain ⟨f1, f2, f3, f4⟩ := HF.out
      clear e1 hll
      go_wp2_with fail
      go_end0
      exact ⟨rfl, HIR.out, HG.out⟩

end Go.Proofs.YthoekplablhgfaaGreatDoor

/- JHex -/
namespace Go.Proofs.YthoekplablhgfaaGreatDoor
open Go.RowKit
set_option linter.unusedVariables false

/-- A hexadecimal digit in small letters, and its value. -/
def hexC (c : Int) : Prop := (48 ≤ c ∧ c ≤ 57) ∨ (97 ≤ c ∧ c ≤ 102)
def hexV (c : Int) : Int := if c ≤ 57 then c - 48 else c - 87

set_option maxHeartbeats 1600000 in
theorem isDigit_at (c : Int) (w : World) (h : 0 ≤ c ∧ c ≤ 255) :
    Calls Tryz.prog 29 #[.int .i64 c] w fun e w' => e = .returned (.bool (decide (48 ≤ c ∧ c ≤ 57))) ∧ w = w' := by
  obtain ⟨h0, h1⟩ := h
  by_cases k1 : 48 ≤ c
  · by_cases k2 : c ≤ 57
    · have e1 : decide (48 ≤ c ∧ c ≤ 57) = true := decide_eq_true ⟨k1, k2⟩
      rw [e1]
      clear e1
      go_enter Tryz.func29, Tryz.ntmps29
      go_wp2
      go_ret
      exact ⟨rfl, rfl⟩
    · have e1 : decide (48 ≤ c ∧ c ≤ 57) = false := decide_eq_false fun h => k2 h.2
      rw [e1]
      clear e1
      go_enter Tryz.func29, Tryz.ntmps29
      go_wp2
      go_ret
      exact ⟨rfl, rfl⟩
  · have e1 : decide (48 ≤ c ∧ c ≤ 57) = false := decide_eq_false fun h => k1 h.1
    rw [e1]
    clear e1
    go_enter Tryz.func29, Tryz.ntmps29
    go_wp2
    go_ret
    exact ⟨rfl, rfl⟩

set_option maxHeartbeats 1600000 in
theorem hex_at (c : Int) (w : World) (h : hexC c) :
    Calls Tryz.prog 63 #[.int .i64 c] w fun e w' => e = .returned (.int .i64 (hexV c)) ∧ w = w' := by
  rcases h with ⟨k1, k2⟩ | ⟨k1, k2⟩
  · have e1 : hexV c = c - 48 := by unfold hexV; rw [if_pos k2]
    have e2 : decide (48 ≤ c ∧ c ≤ 57) = true := decide_eq_true ⟨k1, k2⟩
    rw [e1]
    clear e1
    have E2 := Lib.hid e2
    clear e2
    go_enter Tryz.func63, Tryz.ntmps63
    go_wp2_with fail
    refine (isDigit_at c _ ⟨by omega, by omega⟩).mono ?_
    rintro e w1 ⟨rfl, rfl⟩
    rw [E2.out]
    go_wp2_with fail
    go_ret
    exact ⟨rfl, rfl⟩
  · have e1 : hexV c = c - 97 + 10 := by unfold hexV; rw [if_neg (by omega)]; omega
    have e2 : decide (48 ≤ c ∧ c ≤ 57) = false := decide_eq_false fun h => by omega
    rw [e1]
    clear e1
    have E2 := Lib.hid e2
    clear e2
    go_enter Tryz.func63, Tryz.ntmps63
    go_wp2_with fail
    refine (isDigit_at c _ ⟨by omega, by omega⟩).mono ?_
    rintro e w1 ⟨rfl, rfl⟩
    rw [E2.out]
    go_wp2_with fail
    go_ret
    exact ⟨rfl, rfl⟩

/-- The number that i hexadecimal digits from place p on write. -/
def hexN (s : ByteArray) (p : Nat) : Nat → Int
  | 0 => 0
  | i + 1 => hexN s p i * 16 + hexV (byteAt s (p + i))
theorem hexV_bound {c : Int} (h : hexC c) : 0 ≤ hexV c ∧ hexV c ≤ 15 := by
  unfold hexV
  rcases h with h | h <;> split <;> omega
theorem hexN_bound {s : ByteArray} {p : Nat} (h : ∀ i, i < 4 → hexC (byteAt s (p + i))) : ∀ i, i ≤ 4 → 0 ≤ hexN s p i ∧ hexN s p i < 65536 := by
  have h0 := hexV_bound (h 0 (by omega))
  have h1 := hexV_bound (h 1 (by omega))
  have h2 := hexV_bound (h 2 (by omega))
  have h3 := hexV_bound (h 3 (by omega))
  intro i hi
  have hc : i = 0 ∨ i = 1 ∨ i = 2 ∨ i = 3 ∨ i = 4 := by omega
  rcases hc with rfl | rfl | rfl | rfl | rfl <;> simp only [hexN] <;> omega

set_option maxRecDepth 100000 in
set_option maxHeartbeats 800000 in
theorem four_at (g p d : Nat) (s : ByteArray) (w : World) (h : Rd w g s p d) (hs : s.size ≤ 1000000) (hp : p + 4 ≤ s.size) (hx : ∀ i, i < 4 → hexC (byteAt s (p + i))) :
    Calls Tryz.prog 43 #[.pointer (some ⟨g, 0, none⟩)] w fun e w' => e = .returned (.tuple #[.int .i64 (hexN s p 4), .bool true]) ∧ Rd w' g s (p + 4) d ∧ w.grownBy w' (some g) := by
  have k0 := h.c0
  have k1 := h.c1
  have H := Lib.hid h
  have HX := Lib.hid hx
  have HB := Lib.hid (hexN_bound hx)
  clear h hx
  have f1 : ¬ (s.size : Int) < (p : Int) + 4 := by omega
  go_enter Tryz.func43, Tryz.ntmps43
  go_wp2_with fail
  go_region
  go_wp2_with fail
  go_loopw [4, 17] (fun v4 v17 wr => ∃ (i : Nat) (n : Int), i ≤ 4 ∧ v17 = .int .i64 (i : Nat) ∧ v4 = .int .i64 n ∧ RowKit.Hid (n = hexN s p i) ∧ RowKit.Hid (Rd wr g s (p + i) d) ∧ RowKit.Hid (w.grownBy wr (some g))) (fun _ v17 _ => 4 - (intOf v17).toNat)
  case atStart => exact ⟨0, 0, by omega, rfl, rfl, Lib.hid rfl, Lib.hid H.out, Lib.hid (grownBy_drewR (grownBy_refl' _ _))⟩
  case round =>
    clear k0 k1
    obtain ⟨i, n, hi, rfl, rfl, HN, HR, HG⟩ := hrel
    by_cases hlt : i < 4
    · have hltI : (i : Int) < 4 := by omega
      have hxx := HX.out i hlt
      obtain ⟨q, hqd⟩ : ∃ q, p + i = q := ⟨_, rfl⟩
      have hr := HR.out
      rw [hqd] at hr hxx
      have k0 := hr.c0
      have k1 := hr.c1
      have kf := hr.fz 1
      have hq : q < s.size := by omega
      have hc := byteAt_get s q hq
      obtain ⟨c, hcd⟩ : ∃ c, byteAt s q = c := ⟨_, rfl⟩
      rw [hcd] at hc hxx
      have HR2 := Lib.hid hr
      have HQD := Lib.hid hqd
      clear hr hqd
      have hb := hexV_bound hxx
      obtain ⟨v, hv⟩ : ∃ v, hexV c = v := ⟨_, rfl⟩
      rw [hv] at hb
      obtain ⟨hb0, hb1⟩ := hb
      have hn := HB.out i hi
      rw [← HN.out] at hn
      obtain ⟨hn0, hn1⟩ := hn
      have hc255 : 0 ≤ c ∧ c ≤ 255 := by rcases hxx with h | h <;> omega
      have HCD := Lib.hid hcd
      have HV := Lib.hid hv
      have HXX := Lib.hid hxx
      clear hcd hv hxx
      obtain ⟨hc0, hc1⟩ := hc255
      have hx2 : ∀ w, Calls Tryz.prog 63 #[.int .i64 c] w fun e w' => e = .returned (.int .i64 v) ∧ w' = w := fun w => (hex_at c w HXX.out).mono (by rintro e w' ⟨rfl, rfl⟩; exact ⟨by rw [HV.out], rfl⟩)
      have hwc : IntKind.i64.wrap c = c := IntWalk.i64_in c (by omega)
      have HWC := Lib.hid hwc
      clear hwc
      have HX2 := Lib.hid hx2
      clear hx2
      have hv0 : ¬ v < 0 := by omega
      go_wp2_with fail
      go_quiet ((rw [HWC.out]; exact Calls.quiet_of_same (HX2.out _)))
      go_wp2_with fail
      go_roundw
      case rel =>
        refine ⟨i + 1, n * 16 + v, by omega, by go_num, rfl, Lib.hid ?_, Lib.hid (by rw [show p + (i + 1) = q + 1 from by rw [← HQD.out]; omega]; exact HR2.out.at_ (q + 1)), Lib.hid (grownBy_trans HG.out ⟨rfl, rfl, rfl, by simp [World.setCell], fun k _ hk => Below.heap_setCell _ _ _ _ (fun e => hk (by rw [e]))⟩)⟩
        simp only [hexN]
        rw [HN.out, HQD.out, HCD.out, HV.out]
      case measure => simp [intOf]; omega
    · obtain rfl : i = 4 := by omega
      go_wp2_with fail
      go_ret2
      exact ⟨by rw [HN.out]; rfl, HR.out, HG.out⟩

end Go.Proofs.YthoekplablhgfaaGreatDoor

/- JUnit -/
namespace Go.Proofs.YthoekplablhgfaaGreatDoor
open Go.RowKit
set_option linter.unusedVariables false

/-- What the reader takes at once: a byte as it is, an escape of one letter, one of four digits, the pair of two such. -/
inductive JU where
  | raw (c : Int)
  | esc (e m : Int)
  | hex4 (a b c d : Int)
  | pair
def JU.txt : JU → List Int
  | .raw c => [c]
  | .esc e _ => [92, e]
  | .hex4 a b c d => [92, 117, a, b, c, d]
  | .pair => [92, 117, 100, 56, 51, 100, 92, 117, 100, 101, 48, 48]
def JU.mean : JU → List Int
  | .raw c => [c]
  | .esc _ m => [m]
  | .hex4 a b c d => [((hexV a * 16 + hexV b) * 16 + hexV c) * 16 + hexV d]
  | .pair => [240, 159, 152, 128]
def escL : List (Int × Int) := [(34, 34), (92, 92), (47, 47), (98, 8), (102, 12), (110, 10), (114, 13), (116, 9)]
def JU.ok : JU → Prop
  | .raw c => 32 ≤ c ∧ c ≤ 255 ∧ c ≠ 34 ∧ c ≠ 92
  | .esc e m => (e, m) ∈ escL
  | .hex4 a b c d => hexC a ∧ hexC b ∧ hexC c ∧ hexC d ∧ a = 48 ∧ b = 48 ∧ c ≤ 55
  | .pair => True
def flat (us : List JU) : List Int := us.flatMap JU.txt
def means (us : List JU) : List Int := us.flatMap JU.mean
theorem flat_append (a b : List JU) : flat (a ++ b) = flat a ++ flat b := by unfold flat; simp
/-- What each word is made of. -/
def unitsOf (w : List Int) : List JU :=
  if w = [92, 110] then [.esc 110 10]
  else if w = [92, 34] then [.esc 34 34]
  else if w = [92, 92] then [.esc 92 92]
  else if w = [92, 47] then [.esc 47 47]
  else if w = [92, 116] then [.esc 116 9]
  else if w = [92, 117, 48, 48, 52, 49] then [.hex4 48 48 52 49]
  else if w = [92, 117, 48, 48, 48, 48] then [.hex4 48 48 48 48]
  else if w = [92, 117, 100, 56, 51, 100, 92, 117, 100, 101, 48, 48] then [.pair]
  else w.map .raw
theorem jword_units {w : List Int} (h : w ∈ jstrL) : flat (unitsOf w) = w ∧ ∀ u ∈ unitsOf w, u.ok := by
  simp only [jstrL, List.mem_cons, List.not_mem_nil, or_false] at h
  rcases h with rfl | rfl | rfl | rfl | rfl | rfl | rfl | rfl | rfl | rfl | rfl | rfl | rfl | rfl | rfl | rfl <;> refine ⟨by decide, ?_⟩ <;> intro u hu <;> simp [unitsOf] at hu <;> (first | subst hu | (rcases hu with rfl | rfl | rfl | rfl) | (rcases hu with rfl | rfl)) <;> simp [JU.ok, escL, hexC]
theorem jwords_units : ∀ {n : Nat} {t : List Int}, JWords n t → ∃ us, flat us = t ∧ ∀ u ∈ us, u.ok
  | 0, _, h => ⟨[], by rw [h]; rfl, fun _ h => absurd h (by simp)⟩
  | n + 1, _, ⟨u, w, hu, hw, e⟩ => by
    obtain ⟨us, h1, h2⟩ := jwords_units hu
    obtain ⟨h3, h4⟩ := jword_units hw
    refine ⟨us ++ unitsOf w, by rw [flat_append, h1, h3, e], fun x hx => ?_⟩
    rcases List.mem_append.1 hx with hx | hx
    · exact h2 x hx
    · exact h4 x hx
/-- A string, as it is written and in its parts. -/
theorem jstr_units {t : List Int} (h : JStr t) : ∃ us, t = 34 :: flat us ++ [34] ∧ ∀ u ∈ us, u.ok := by
  obtain ⟨n, u, _, hu, rfl⟩ := h
  obtain ⟨us, h1, h2⟩ := jwords_units hu
  exact ⟨us, by rw [h1], h2⟩

end Go.Proofs.YthoekplablhgfaaGreatDoor

/- JUnit2 -/
namespace Go.Proofs.YthoekplablhgfaaGreatDoor
open Go.RowKit
set_option linter.unusedVariables false

/-- The bytes l lie in the text s from place p on. -/
def LiesAt (s : ByteArray) (p : Nat) (l : List Int) : Prop := p + l.length ≤ s.size ∧ ∀ j, j < l.length → byteAt s (p + j) = l.getD j 0
theorem LiesAt.head {s : ByteArray} {p : Nat} {c : Int} {l : List Int} (h : LiesAt s p (c :: l)) : p < s.size ∧ byteAt s p = c := by
  have h1 := h.1
  simp at h1
  have h2 := h.2 0 (by simp)
  exact ⟨by omega, h2⟩
theorem LiesAt.tail {s : ByteArray} {p : Nat} {c : Int} {l : List Int} (h : LiesAt s p (c :: l)) : LiesAt s (p + 1) l := by
  have h1 := h.1
  simp at h1
  refine ⟨by omega, fun j hj => ?_⟩
  have h2 := h.2 (j + 1) (by simp; omega)
  rw [show p + 1 + j = p + (j + 1) from by omega, h2, List.getD_cons_succ]
theorem LiesAt.drop {s : ByteArray} {p : Nat} : ∀ {a b : List Int}, LiesAt s p (a ++ b) → LiesAt s (p + a.length) b
  | [], _, h => h
  | c :: a, b, h => by
    have := LiesAt.drop (a := a) (LiesAt.tail h)
    rw [List.length_cons, show p + (a.length + 1) = p + 1 + a.length from by omega]
    exact this
theorem LiesAt.left {s : ByteArray} {p : Nat} {a b : List Int} (h : LiesAt s p (a ++ b)) : LiesAt s p a := by
  have h1 := h.1
  rw [List.length_append] at h1
  refine ⟨by omega, fun j hj => ?_⟩
  rw [h.2 j (by rw [List.length_append]; omega), List.getD_eq_getElem?_getD, List.getElem?_append_left hj, List.getD_eq_getElem?_getD]
/-- One byte cut out. -/
theorem extract_byte {s : ByteArray} {p : Nat} (h : p < s.size) : s.extract p (p + 1) = strOfNums [byteAt s p] := by
  conv => lhs; rw [← str_bytesL s]
  rw [str_extract]
  congr 1
  have hl : p < (bytesL s).length := by rw [bytesL_length]; exact h
  unfold byteAt
  rw [List.drop_take, List.drop_eq_getElem_cons hl, show p + 1 - p = 1 from by omega, List.take_succ_cons, List.take_zero, List.getD_eq_getElem?_getD, List.getElem?_eq_getElem hl]
  rfl
theorem means_append (a b : List JU) : means (a ++ b) = means a ++ means b := by unfold means; simp
theorem means_len : ∀ us : List JU, (means us).length ≤ (flat us).length
  | [] => Nat.le_refl _
  | u :: us => by
    have ih := means_len us
    have : u.mean.length ≤ u.txt.length := by cases u <;> simp [JU.mean, JU.txt]
    unfold means flat at *
    simp only [List.flatMap_cons, List.length_append]
    omega

end Go.Proofs.YthoekplablhgfaaGreatDoor
