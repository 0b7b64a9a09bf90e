/-
  No cell of these rows narrows 'for every input' (looked for: loops, veiled, ifaces, maps, wideKeys, modest, calm, conditions, laid).
  DERIVED. THE GIVEN ROWS OF THIS SEAT. 2 by the template 'for every input the law returns true; each argument reads behind the call as it read before'; 0 by the template 'total and deterministic' (their statements: YthfogblmcmlkhaaTotals.lean).
  GIVEN WITH THE SEED: the statements are not yours to turn. If you find one false, say at which input.
  Laid BY PROGRAM, IN A SANDBOX (cutbox-rows.mjs): the forced cells as the released guide's own fill.sh prints them over the translation efa99d17e232a44a… (all of the seat's roots in one cut). By AI agents, Wed Nov 11 2026. No macro, syntax, notation, axiom, sorry.
-/
import Derived.Test.YthfogblmcmlkhaaChecked
import GoSem.Claim
import GoSem.ClaimJoined
import GoSem.ClaimMapViews
import Derived.JoinedTies
import Derived.KernelRfl
namespace Go.Proofs.Ythfogblmcmlkhaa
/- THE CELL 'sum', in the pinned program and in every row, IS THE sha256 OF THE DUMP (.gsa) THAT YthfogblmcmlkhaaProg.lean LOADS. Nothing in Lean hashes anything: it is a label: what it is worth is what the hold of that sum in a sandbox is worth. -/
noncomputable def Try.pinned : Pinned := { name := "ythfogblmcmlkhaa", sum := "efa99d17e232a44ae06e0ee4a7c41b70088845cc4eee5dcc330ee8c78c33633f", checked := Try.checked }
namespace Rows
def none {H : Type} : Left H := { results := [], args := [] }

/-- 'laws.FnDecimal': WHATEVER THE INPUT: true; the input reads as it did. -/
def fnDecimalSpec : ChangeSpec := { name := "fnDecimal", fn := fun _ => fun
  | [d] => { results := [.lit (.bool true)], args := [d] }
  | _ => none }
def fnDecimalRow : OpenClaim := { program := "ythfogblmcmlkhaa", sum := "efa99d17e232a44ae06e0ee4a7c41b70088845cc4eee5dcc330ee8c78c33633f", func := "textsminified/laws.FnDecimal", spec := "fnDecimal", unfollowed := true, recurses := true, apart := false }
def FnDecimalSaid : Prop := fnDecimalRow.holds Try.pinned (OpenSpec.ofChange fnDecimalSpec)

/-- ITS FALSE NEIGHBOUR: 'it returns false'. Refute it at one input. -/
def fnDecimalWrong : ChangeSpec := { name := "fnDecimal", fn := fun _ => fun
  | [d] => { results := [.lit (.bool false)], args := [d] }
  | _ => none }
def FnDecimalWrongFalsely : Prop := fnDecimalRow.holds Try.pinned (OpenSpec.ofChange fnDecimalWrong)

/-- 'laws.FnNumber': WHATEVER THE INPUT: true; the input reads as it did. -/
def fnNumberSpec : ChangeSpec := { name := "fnNumber", fn := fun _ => fun
  | [d] => { results := [.lit (.bool true)], args := [d] }
  | _ => none }
def fnNumberRow : OpenClaim := { program := "ythfogblmcmlkhaa", sum := "efa99d17e232a44ae06e0ee4a7c41b70088845cc4eee5dcc330ee8c78c33633f", func := "textsminified/laws.FnNumber", spec := "fnNumber", unfollowed := true, recurses := true, apart := false }
def FnNumberSaid : Prop := fnNumberRow.holds Try.pinned (OpenSpec.ofChange fnNumberSpec)

/-- ITS FALSE NEIGHBOUR: 'it returns false'. Refute it at one input. -/
def fnNumberWrong : ChangeSpec := { name := "fnNumber", fn := fun _ => fun
  | [d] => { results := [.lit (.bool false)], args := [d] }
  | _ => none }
def FnNumberWrongFalsely : Prop := fnNumberRow.holds Try.pinned (OpenSpec.ofChange fnNumberWrong)

/- THE SECOND FORM. 'bulk': how many values and letters a reading holds, each counted each time it is reached (what is shared counts as often as it is met; a slice's spare places count too). A statement '..UptoSaid' is the law's where the arguments, and the package variables that the reading takes, are together of bulk at most 1048576: NARROWER than '..Said'. Prove '..Said' where nothing that the law and all that it calls make is longer than what came in: it says more and counts as full. Else prove '..UptoSaid'. A law counts once. -/
mutual
def uptoBulk {H : Type} : DataW H → Nat
  | .lit (.string bytes) => bytes.length + 1
  | .lit _ => 1
  | .nil => 1
  | .ptr d => uptoBulk d + 1
  | .slice elems spare => uptoBulkAll elems + uptoBulkAll spare + 1
  | .agg parts => uptoBulkAll parts + 1
  | .iface _ d => uptoBulk d + 1
  | .map entries => uptoBulkEntries entries + 1
  | .held _ => 1
def uptoBulkAll {H : Type} : List (DataW H) → Nat
  | [] => 0
  | d :: r => uptoBulk d + uptoBulkAll r
def uptoBulkEntries {H : Type} : List (Lit × DataW H) → Nat
  | [] => 0
  | x :: r => uptoBulkEntry x + uptoBulkEntries r
def uptoBulkEntry {H : Type} : Lit × DataW H → Nat
  | (.string bytes, d) => bytes.length + uptoBulk d + 1
  | (_, d) => uptoBulk d + 1
 end
def uptoSmall : (H : Type) → List (DataW H) → Bool := fun _ ds => decide (uptoBulkAll ds ≤ 1048576)
def OpenSpec.upto (s : _root_.Go.ChangeSpec) : _root_.Go.OpenSpec := { _root_.Go.OpenSpec.ofChange s with cond := some uptoSmall }

/-- 'laws.FnDecimal', WHERE WHAT IT READS IS OF BULK AT MOST 1048576: true; the input reads as it did. -/
def fnDecimalUptoRow : OpenClaim := { program := "ythfogblmcmlkhaa", sum := "efa99d17e232a44ae06e0ee4a7c41b70088845cc4eee5dcc330ee8c78c33633f", func := "textsminified/laws.FnDecimal", spec := "fnDecimal", unfollowed := true, recurses := true, apart := false, narrowed := true }
def FnDecimalUptoSaid : Prop := fnDecimalUptoRow.holds Try.pinned (OpenSpec.upto fnDecimalSpec)

/-- 'laws.FnNumber', WHERE WHAT IT READS IS OF BULK AT MOST 1048576: true; the input reads as it did. -/
def fnNumberUptoRow : OpenClaim := { program := "ythfogblmcmlkhaa", sum := "efa99d17e232a44ae06e0ee4a7c41b70088845cc4eee5dcc330ee8c78c33633f", func := "textsminified/laws.FnNumber", spec := "fnNumber", unfollowed := true, recurses := true, apart := false, narrowed := true }
def FnNumberUptoSaid : Prop := fnNumberUptoRow.holds Try.pinned (OpenSpec.upto fnNumberSpec)

end Rows
end Go.Proofs.Ythfogblmcmlkhaa
