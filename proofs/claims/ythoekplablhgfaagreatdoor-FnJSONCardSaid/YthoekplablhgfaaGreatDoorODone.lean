/-
  The contract of minify.Number without precision: which bytes it hands back.
-/
import Derived.Test.YthoekplablhgfaaGreatDoorOCa
import Derived.Test.YthoekplablhgfaaGreatDoorOCb
import Derived.Test.YthoekplablhgfaaGreatDoorOCe
import Derived.Test.YthoekplablhgfaaGreatDoorOCd
import Derived.Test.YthoekplablhgfaaGreatDoorMDig
import Derived.IntWalk
import Derived.Deep.DeepCutAuto
import Derived.Deep.CutBlock
namespace Go.Proofs.YthoekplablhgfaaGreatDoor
open Go.RowKit
set_option linter.unusedVariables false

theorem Number_at (h o cap N n sl di z : Nat) (neg : Bool) (I F : List Int) (ev : Int) (pre xs : List Int) (tail : List Value) (w : World) (hb : BufO w h o pre xs tail) (hd : NumAt xs N n sl di z neg I F ev) (hcap : N ≤ cap) (hmax : N ≤ 1000000) : Calls Tryz.prog 40 #[.slice (some ⟨h, o, none⟩) N cap, .int .i64 0] w (NumPost h o cap N (numR xs neg I F ev) pre tail w) :=
  (numPre h o cap N n sl di z neg I F ev pre xs tail w).2.2.2.2 (Kept.mk (numCase1 h o cap N n sl di z neg I F ev pre xs tail w)) (Kept.mk (numCase2 h o cap N n sl di z neg I F ev pre xs tail w)) (Kept.mk (numCase3 h o cap N n sl di z neg I F ev pre xs tail w)) (Kept.mk (numCase4 h o cap N n sl di z neg I F ev pre xs tail w)) hb hd hcap hmax

end Go.Proofs.YthoekplablhgfaaGreatDoor
