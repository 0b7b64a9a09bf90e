/-
  Bytes of texts as lists of numbers: plain lemmas.
-/
import Derived.Test.YthfogblmcmlkhaaWord
import Derived.Laws.BytesArg
import Derived.Lib.Strings
namespace Go.Proofs.Ythfogblmcmlkhaa
open Go.RowKit
set_option linter.unusedVariables false

def byteN (x : Int) : Prop := 0 ≤ x ∧ x ≤ 255
def bytesL (s : ByteArray) : List Int := s.data.toList.map fun b => (b.toNat : Int)
theorem bytesL_length (s : ByteArray) : (bytesL s).length = s.size := by simp [bytesL]
theorem bytesL_byte (s : ByteArray) : ∀ x ∈ bytesL s, byteN x := by
  intro x hx
  obtain ⟨b, _, rfl⟩ := List.mem_map.1 hx
  have := b.toNat_lt
  exact ⟨by omega, by omega⟩
theorem bytesL_get (s : ByteArray) (k : Nat) (h : k < s.size) : (bytesL s)[k]? = some ((s[k]'h).toNat : Int) := by
  unfold bytesL
  have h' : k < s.data.toList.length := by simpa using h
  rw [List.getElem?_map, List.getElem?_eq_getElem h']
  rfl
theorem bytesL_append (a b : ByteArray) : bytesL (a ++ b) = bytesL a ++ bytesL b := by
  unfold bytesL
  rw [ByteArray.data_append, Array.toList_append, List.map_append]
theorem bytesL_str {xs : List Int} (h : ∀ x ∈ xs, byteN x) : bytesL (strOfNums xs) = xs := by
  unfold bytesL strOfNums
  simp only [List.map_map]
  conv => rhs; rw [← List.map_id xs]
  refine List.map_congr_left fun x hx => ?_
  obtain ⟨h0, h1⟩ := h x hx
  simp only [Function.comp, id, UInt8.toNat_ofNat']
  omega
theorem str_bytesL (s : ByteArray) : strOfNums (bytesL s) = s := by
  unfold bytesL strOfNums
  apply ByteArray.ext
  apply Array.ext'
  simp only [List.map_map]
  conv => rhs; rw [← List.map_id s.data.toList]
  refine List.map_congr_left fun x _ => ?_
  simp [Function.comp]
theorem str_append (xs ys : List Int) : strOfNums (xs ++ ys) = strOfNums xs ++ strOfNums ys := by
  unfold strOfNums
  apply ByteArray.ext
  apply Array.ext'
  rw [ByteArray.data_append, Array.toList_append]
  simp
theorem str_get {xs : List Int} (k : Nat) (h : k < (strOfNums xs).size) (hb : ∀ x ∈ xs, byteN x) : (((strOfNums xs)[k]'h).toNat : Int) = xs.getD k 0 := by
  have h1 := bytesL_get (strOfNums xs) k h
  rw [bytesL_str hb] at h1
  rw [List.getD_eq_getElem?_getD, h1]
  rfl
theorem str_extract (xs : List Int) (a b : Nat) : (strOfNums xs).extract a b = strOfNums ((xs.take b).drop a) := by
  unfold strOfNums
  apply ByteArray.ext
  apply Array.ext'
  simp [ByteArray.data_extract, List.extract_eq_take_drop, List.map_take, List.map_drop, List.drop_take]
theorem bytesL_drop (s : ByteArray) (k : Nat) (h : k < s.size) : (bytesL s).drop k = ((s[k]'h).toNat : Int) :: (bytesL s).drop (k + 1) := by
  have hl : k < (bytesL s).length := by rw [bytesL_length]; exact h
  rw [List.drop_eq_getElem_cons hl]
  congr 1
  have := bytesL_get s k h
  rw [List.getElem?_eq_getElem hl] at this
  exact Option.some.inj this

end Go.Proofs.Ythfogblmcmlkhaa
