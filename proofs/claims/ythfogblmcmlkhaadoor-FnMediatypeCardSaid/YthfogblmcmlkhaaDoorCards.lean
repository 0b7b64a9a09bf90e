/-
  DERIVED. GIVEN WITH THE SEED: THE CARDS: each row of YthfogblmcmlkhaaDoorRows.lean that lists a variable, with what it lists TIED to the program's text (the seventh form; the later family's looks); each row that meets fmt, with fmt's text TOLD by the authors' own Lean function (tested against real Go, not proved from fmt's source: count such statements apart). THE CARD IS WHAT COUNTS. Prove the row's statement (the work); the ties are given (YthfogblmcmlkhaaDoorTie.lean); close each card by the builder's one call (the guide's Derived/Test/ToyasCard.lean, 'card_holds'). Laid BY PROGRAM, IN A SANDBOX (cutbox-door.mjs). By AI agents, Wed Nov 11 2026. No macro, syntax, notation, axiom, sorry.
-/
import Derived.Test.YthfogblmcmlkhaaDoorRows
import GoSem.ClaimSeven
namespace Go.Proofs.YthfogblmcmlkhaaDoor
namespace Rows

/-- THE TIED CARD OF 'laws.FnMediatype'. -/
def fnMediatypeCard : Claim7 := { stood := { row := fnMediatypeRow, standIns := [], harness := (true, "ad9ab8a434b150517b8c10edab892ba8f6ae305bd77e3d019d8dcfc949c56b80"), looks := false }, kinds := [], alts := [], laidByText := true, laidKinds := [.data], laidTests := true, laidLooks := .later }
def FnMediatypeCardSaid : Prop := Claim7.holds Tryd.pinned (.plain (OpenSpec.ofChange fnMediatypeSpec)) fnMediatypeCard

/-- THE SECOND FORM's CARD OF 'laws.FnMediatype'. -/
def fnMediatypeUptoCard : Claim7 := { stood := { row := fnMediatypeUptoRow, standIns := [], harness := (true, "ad9ab8a434b150517b8c10edab892ba8f6ae305bd77e3d019d8dcfc949c56b80"), looks := false }, kinds := [], alts := [], laidByText := true, laidKinds := [.data], laidTests := true, laidLooks := .later }
def FnMediatypeUptoCardSaid : Prop := Claim7.holds Tryd.pinned (.plain (OpenSpec.upto fnMediatypeSpec)) fnMediatypeUptoCard
end Rows
end Go.Proofs.YthfogblmcmlkhaaDoor
