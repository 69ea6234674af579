/-
  DERIVED. GIVEN WITH THE SEED: THE CARDS: each row of Qxb6617296aDoorRows.lean that lists a variable, with what it lists TIED to the program's text (the seventh form; the later family's looks); each row that meets fmt, with fmt's text TOLD by the authors' own Lean function (tested against real Go, not proved from fmt's source: count such statements apart). THE CARD IS WHAT COUNTS. Prove the row's statement (the work); the ties are given (Qxb6617296aDoorTie.lean); close each card by the builder's one call (the guide's Derived/Test/ToyasCard.lean, 'card_holds'). Laid BY PROGRAM, IN A SANDBOX (cutbox-door.mjs). By AI agents, Wed Nov 11 2026. No macro, syntax, notation, axiom, sorry.
-/
import Derived.Test.Qxb6617296aDoorRows
import GoSem.ClaimSeven
namespace Go.Proofs.Qxb6617296aDoor
namespace Rows

/-- THE TIED CARD OF 'zzlaws_internal_backend_b1.FnUnescapeMatchesPositionModel'. -/
def fnUnescapeMatchesPositionModelCard : Claim7 := { stood := { row := fnUnescapeMatchesPositionModelRow, standIns := [], harness := (true, "36f635015b7c7dc20ccfcd592ff269f6b060b7eac30372ea3af5f6af25eb511e"), looks := true }, kinds := [], alts := [], laidByText := true, laidKinds := [.data, .data, .data, .sentinel, .sentinel], laidTests := true, laidLooks := .later }
def FnUnescapeMatchesPositionModelCardSaid : Prop := Claim7.holds Tryd.pinned (.plain (OpenSpec.ofChange fnUnescapeMatchesPositionModelSpec)) fnUnescapeMatchesPositionModelCard

/-- THE TIED CARD OF 'zzlaws_internal_backend_b1.FnUnescapeUndoesOctalEscaping'. -/
def fnUnescapeUndoesOctalEscapingCard : Claim7 := { stood := { row := fnUnescapeUndoesOctalEscapingRow, standIns := [], harness := (true, "36f635015b7c7dc20ccfcd592ff269f6b060b7eac30372ea3af5f6af25eb511e"), looks := true }, kinds := [], alts := [], laidByText := true, laidKinds := [.data, .data, .data, .sentinel, .sentinel], laidTests := true, laidLooks := .later }
def FnUnescapeUndoesOctalEscapingCardSaid : Prop := Claim7.holds Tryd.pinned (.plain (OpenSpec.ofChange fnUnescapeUndoesOctalEscapingSpec)) fnUnescapeUndoesOctalEscapingCard

/-- THE TIED CARD OF 'zzlaws_internal_backend_b1.FnUnescapeSplitsAtCleanCut'. -/
def fnUnescapeSplitsAtCleanCutCard : Claim7 := { stood := { row := fnUnescapeSplitsAtCleanCutRow, standIns := [], harness := (true, "36f635015b7c7dc20ccfcd592ff269f6b060b7eac30372ea3af5f6af25eb511e"), looks := true }, kinds := [], alts := [], laidByText := true, laidKinds := [.data, .data, .data, .sentinel, .sentinel], laidTests := true, laidLooks := .later }
def FnUnescapeSplitsAtCleanCutCardSaid : Prop := Claim7.holds Tryd.pinned (.plain (OpenSpec.ofChange fnUnescapeSplitsAtCleanCutSpec)) fnUnescapeSplitsAtCleanCutCard
end Rows
end Go.Proofs.Qxb6617296aDoor
