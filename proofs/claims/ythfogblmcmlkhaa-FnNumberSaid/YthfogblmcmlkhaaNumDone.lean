/-
  The contract of minify.Number without precision: which bytes it hands back.
-/
import Derived.Test.YthfogblmcmlkhaaNumCa
import Derived.Test.YthfogblmcmlkhaaNumCb
import Derived.Test.YthfogblmcmlkhaaNumCe
import Derived.Test.YthfogblmcmlkhaaNumCd
import Derived.Test.YthfogblmcmlkhaaNumBuf
import Derived.Test.YthfogblmcmlkhaaNumPure
import Derived.Test.YthfogblmcmlkhaaNumRoom
import Derived.IntWalk
import Derived.Deep.DeepCutAuto
import Derived.Deep.CutBlock
namespace Go.Proofs.Ythfogblmcmlkhaa
open Go.RowKit
set_option linter.unusedVariables false

theorem Number_at (h cap N n sl di z : Nat) (neg : Bool) (I F : List Int) (ev : Int) (xs : List Int) (tail : List Value) (w : World) (hb : Buf w h xs tail) (hd : NumAt xs N n sl di z neg I F ev) (hcap : N ≤ cap) (hmax : N ≤ 1000000) : Calls Try.prog 20 #[.slice (some ⟨h, 0, none⟩) N cap, .int .i64 0] w (NumPost h cap N (numR xs neg I F ev) tail w) :=
  (numPre h cap N n sl di z neg I F ev xs tail w).2.2.2.2 (Kept.mk (numCase1 h cap N n sl di z neg I F ev xs tail w)) (Kept.mk (numCase2 h cap N n sl di z neg I F ev xs tail w)) (Kept.mk (numCase3 h cap N n sl di z neg I F ev xs tail w)) (Kept.mk (numCase4 h cap N n sl di z neg I F ev xs tail w)) hb hd hcap hmax

end Go.Proofs.Ythfogblmcmlkhaa
