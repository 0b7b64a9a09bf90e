/-
  What is proved: laws.FnJSON returns true for every two slices of numbers and either choice to keep numbers, and changes neither slice: every text of JSON that the statement's maker writes is read, minified, read again as the same value (numbers written as they were, if they are kept), without white space outside of strings, no longer than it was, and minified again it stays as it is.
  Its conditions: the listed variables read as the program's text lays them when the call begins (the card ties them: the given Tie); of these io.EOF alone is read.
-/
import Derived.Test.YthoekplablhgfaaGreatDoorJRow
namespace Go.Proofs.YthoekplablhgfaaGreatDoor
open Go

theorem card_holds : Rows.FnJSONCardSaid :=
  Claim7.holds_tied_plain_at .later [] [.data, .data, .data, .sentinel, .data] true (true, "14114bc6b95e01b6745c7b16c3f3f6f31ffa66e0607490f2b597dea7b5c4fd81") true
    row_holds (fun _ h => by cases h) (by kernel_rfl) (fun _ h => by cases h) fnJSON_row_tie rfl ⟨rfl, rfl⟩ (by kernel_rfl) rfl
    (fun f fn hf hfn => by
      obtain rfl : f = 3 := Option.some.inj ((show Tryz.prog.funcNamed "textsminified/laws.FnJSON" = some 3 by kernel_rfl).symm.trans hf) |>.symm
      obtain rfl : fn = Tryz.f3 := (Option.some.inj (Tryz.func3.symm.trans hfn)).symm
      exact ⟨by kernel_rfl, fun j t ht => by
        rw [Tryz.params3] at ht
        have h3 : t = 22 ∨ t = 4 := by
          rcases j with _ | _ | _ | j
          · left; simpa using ht.symm
          · left; simpa using ht.symm
          · right; simpa using ht.symm
          · simp at ht
        rcases h3 with rfl | rfl
        · exact (show Tryz.prog.wantsStandIn 22 = false by kernel_rfl)
        · exact (show Tryz.prog.wantsStandIn 4 = false by kernel_rfl)⟩)
    (by kernel_rfl)
#print axioms card_holds

end Go.Proofs.YthoekplablhgfaaGreatDoor
