/-
  DERIVED. GIVEN WITH THE SEED: THE CARDS: each row of YthoekplablhgfaaGreatDoorRows.lean that lists a variable, with what it lists TIED to the program's text (the seventh form; the later family's looks); each row that meets fmt, with fmt's text TOLD by the authors' own Lean function (tested against real Go, not proved from fmt's source: count such statements apart). THE CARD IS WHAT COUNTS. Prove the row's statement (the work); the ties are given (YthoekplablhgfaaGreatDoorTie.lean); close each card by the builder's one call (the guide's Derived/Test/ToyasCard.lean, 'card_holds'). Laid BY PROGRAM, IN A SANDBOX (cutbox-door.mjs). By AI agents, Wed Nov 11 2026. No macro, syntax, notation, axiom, sorry.
-/
import Derived.Test.YthoekplablhgfaaGreatDoorRows
import GoSem.ClaimSeven
namespace Go.Proofs.YthoekplablhgfaaGreatDoor
namespace Rows

/-- THE TIED CARD OF 'laws.FnJSON'. -/
def fnJSONCard : Claim7 := { stood := { row := fnJSONRow, standIns := [], harness := (true, "14114bc6b95e01b6745c7b16c3f3f6f31ffa66e0607490f2b597dea7b5c4fd81"), looks := true }, kinds := [], alts := [], laidByText := true, laidKinds := [.data, .data, .data, .sentinel, .data], laidTests := true, laidLooks := .later }
def FnJSONCardSaid : Prop := Claim7.holds Tryz.pinned (.plain (OpenSpec.ofChange fnJSONSpec)) fnJSONCard

/-- THE SECOND FORM's CARD OF 'laws.FnJSON'. -/
def fnJSONUptoCard : Claim7 := { stood := { row := fnJSONUptoRow, standIns := [], harness := (true, "14114bc6b95e01b6745c7b16c3f3f6f31ffa66e0607490f2b597dea7b5c4fd81"), looks := true }, kinds := [], alts := [], laidByText := true, laidKinds := [.data, .data, .data, .sentinel, .data], laidTests := true, laidLooks := .later }
def FnJSONUptoCardSaid : Prop := Claim7.holds Tryz.pinned (.plain (OpenSpec.upto fnJSONSpec)) fnJSONUptoCard
end Rows
end Go.Proofs.YthoekplablhgfaaGreatDoor
