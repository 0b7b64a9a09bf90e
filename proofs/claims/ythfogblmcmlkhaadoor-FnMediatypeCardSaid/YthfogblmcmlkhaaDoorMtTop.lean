/-
  laws.FnMediatype returns true, whatever it is handed, if the plain law holds.
-/
import Derived.Test.YthfogblmcmlkhaaDoorFew
import Derived.Test.YthfogblmcmlkhaaDoorMedia
import Derived.Test.YthfogblmcmlkhaaDoorBare
namespace Go.Proofs.YthfogblmcmlkhaaDoor
open Go.RowKit
set_option linter.unusedVariables false

/-- What the plain side must show. -/
def MediaLaw : Prop := ∀ (n : Nat) (s : ByteArray), MediaIs n s → n ≤ 2 → 0 < s.size ∧ s.size ≤ 1000000 ∧ mtS s = bareS s ∧ mtS (mtS s) = mtS s ∧ 0 < (mtS s).size ∧ (mtS s).size ≤ 1000000

set_option maxHeartbeats 1600000 in
theorem FnMediatype_any (A1 A2 : Option Addr) (n1 c1 n2 c2 : Nat) (xs ys : List Int) (w : World) (r1 : RInts w w.heap.size A1 n1 xs) (r2 : RInts w w.heap.size A2 n2 ys)
    (k1 : n1 ≤ c1) (k2 : n2 ≤ c2) (m1 : c1 ≤ 9223372036854775807) (m2 : c2 ≤ 9223372036854775807) (ht : Tbl w) (hw : 0 < w.heap.size) (hlaw : MediaLaw) :
    Calls Tryd.prog 3 #[.slice A1 n1 c1, .slice A2 n2 c2] w fun e w' => e = .returned (.bool true) ∧ Below w.heap.size w w' := by
  have HLAW := Lib.hid hlaw
  clear hlaw
  have b1 := r1.2.1
  have b2 := r2.2.1
  by_cases h1 : 2147483647 < n1
  · have h1' : decide (2147483647 < (n1 : Int)) = true := by simp; omega
    clear r1 r2
    go_enter Tryd.func3, Tryd.ntmps3
    go_wp2
    go_ret
    exact ⟨rfl, Below.refl _ _⟩
  by_cases h2 : 2147483647 < n2
  · clear r1 r2
    go_enter Tryd.func3, Tryd.ntmps3
    go_wp2
    go_ret
    exact ⟨rfl, Below.refl _ _⟩
  have q1 := r1.take (min n1 300) (by omega)
  have q2 := r2.take (min n2 300) (by omega)
  have R1 := Lib.hid r1
  have R2 := Lib.hid r2
  have Q1 := Lib.hid q1
  have Q2 := Lib.hid q2
  clear r1 r2 q1 q2
  go_enter Tryd.func3, Tryd.ntmps3
  go_wp2_with fail
  refine (few_any A1 n1 c1 xs w R1.out k1 m1).mono ?_
  rintro e w1 ⟨rfl, rfl⟩
  go_wp2_with fail
  refine (few_any A2 n2 c2 ys w R2.out k2 m2).mono ?_
  rintro e w1 ⟨rfl, rfl⟩
  go_wp2_with fail
  refine (MediaText_at A1 A2 _ c1 _ c2 w.heap.size _ _ w rfl Q1.out Q2.out).mono ?_
  rintro e w1 ⟨n, s, hn, hs, rfl, hb⟩
  obtain ⟨l1, l2, l3, l4, l5⟩ := HLAW.out n s hs hn
  have L3 := Lib.hid l3
  have L4 := Lib.hid l4
  have hb0 := hb.size
  have HB := Lib.hid hb
  clear l3 l4 hb hs
  go_wp2_with fail
  refine (implMediatype_any s w1 l1 l2 (ht.below HB.out hw) (by omega)).mono ?_
  rintro e w2 ⟨rfl, hb2⟩
  have hb02 := hb2.size
  have hbb : Below w.heap.size w w2 := HB.out.trans (hb2.mono hb0)
  have HB2 := Lib.hid hbb
  clear hb2 hbb
  go_wp2_with fail
  refine (Bare_any s w2 l2).mono ?_
  rintro e w3 ⟨rfl, hb3⟩
  rw [← L3.out]
  have hb03 := hb3.size
  have hbb : Below w.heap.size w w3 := HB2.out.trans (hb3.mono (by omega))
  have HB3 := Lib.hid hbb
  clear hb3 hbb
  go_wp2_with fail
  refine (implMediatype_any (mtS s) w3 l5.1 l5.2 (ht.below HB3.out hw) (by omega)).mono ?_
  rintro e w4 ⟨rfl, hb4⟩
  rw [L4.out]
  have hbb : Below w.heap.size w w4 := HB3.out.trans (hb4.mono (by omega))
  have HB4 := Lib.hid hbb
  clear hb4 hbb
  go_wp2_with fail
  go_ret
  exact ⟨rfl, HB4.out⟩

end Go.Proofs.YthfogblmcmlkhaaDoor
