/-
  What is proved: minify.Mediatype, called through impl, makes of every text that the statement's makers can make just the text without white space outside of quotes, in small letters there, and leaves that text as it is when it is called again; laws.FnMediatype returns true for every two slices of numbers and changes neither.
  Its conditions: the table of white space reads as the program's text lays it (the card ties it: the given Tie).
-/
import Derived.Test.YthfogblmcmlkhaaDoorMtRow
import Derived.Test.YthfogblmcmlkhaaDoorMtLaw3
namespace Go.Proofs.YthfogblmcmlkhaaDoor
open Go

theorem card_holds : Rows.FnMediatypeCardSaid :=
  Claim7.holds_tied_plain_at .later [] [.data] true (true, "ad9ab8a434b150517b8c10edab892ba8f6ae305bd77e3d019d8dcfc949c56b80") false
    (row_holds media_law) (fun _ h => by cases h) (by kernel_rfl) (fun _ h => by cases h) fnMediatype_row_tie rfl ⟨rfl, rfl⟩ (by kernel_rfl) rfl
    (fun f fn hf hfn => by
      obtain rfl : f = 3 := Option.some.inj ((show Tryd.prog.funcNamed "textsminified/laws.FnMediatype" = some 3 by kernel_rfl).symm.trans hf) |>.symm
      obtain rfl : fn = Tryd.f3 := (Option.some.inj (Tryd.func3.symm.trans hfn)).symm
      exact ⟨by kernel_rfl, fun j t ht => by
        rw [Tryd.params3] at ht
        have h3 : t = 22 := by
          rcases j with _ | _ | j
          · simpa using ht.symm
          · simpa using ht.symm
          · simp at ht
        subst h3
        exact (show Tryd.prog.wantsStandIn 22 = false by kernel_rfl)⟩)
    (by kernel_rfl)
#print axioms card_holds

end Go.Proofs.YthfogblmcmlkhaaDoor
