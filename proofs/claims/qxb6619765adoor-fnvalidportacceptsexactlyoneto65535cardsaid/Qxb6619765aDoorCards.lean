/-
  DERIVED. GIVEN WITH THE SEED: THE CARDS: each row of Qxb6619765aDoorRows.lean that lists a variable, with what it lists TIED to the program's text (the seventh form; the later family's looks); each row that meets fmt, with fmt's text TOLD by the authors' own Lean function (tested against real Go, not proved from fmt's source: count such statements apart). THE CARD IS WHAT COUNTS. Prove the row's statement (the work); the ties are given (Qxb6619765aDoorTie.lean); close each card by the builder's one call (the guide's Derived/Test/ToyasCard.lean, 'card_holds'). Laid BY PROGRAM, IN A SANDBOX (cutbox-door.mjs). By AI agents, Wed Nov 11 2026. No macro, syntax, notation, axiom, sorry.
-/
import Derived.Test.Qxb6619765aDoorRows
import GoSem.ClaimSeven
namespace Go.Proofs.Qxb6619765aDoor
namespace Rows

/-- THE TIED CARD OF 'zzlaws_boundary_b1.FnValidPortAgreesWithParseVersion'. -/
def fnValidPortAgreesWithParseVersionCard : Claim7 := { stood := { row := fnValidPortAgreesWithParseVersionRow, standIns := [], harness := (true, "7a8dc7ee5a1eb6c315c74b7a1467427c27bd926df576b038234dff8e2e93f3ba"), looks := true }, kinds := [], alts := [], laidByText := true, laidKinds := [.data, .data, .data, .sentinel, .sentinel], laidTests := true, laidLooks := .later }
def FnValidPortAgreesWithParseVersionCardSaid : Prop := Claim7.holds Tryd.pinned (.plain (OpenSpec.ofChange fnValidPortAgreesWithParseVersionSpec)) fnValidPortAgreesWithParseVersionCard

/-- THE TIED CARD OF 'zzlaws_boundary_b1.FnValidPortAcceptsExactlyOneTo65535'. -/
def fnValidPortAcceptsExactlyOneTo65535Card : Claim7 := { stood := { row := fnValidPortAcceptsExactlyOneTo65535Row, standIns := [], harness := (true, "7a8dc7ee5a1eb6c315c74b7a1467427c27bd926df576b038234dff8e2e93f3ba"), looks := true }, kinds := [], alts := [], laidByText := true, laidKinds := [.data, .data, .data, .sentinel, .sentinel], laidTests := true, laidLooks := .later }
def FnValidPortAcceptsExactlyOneTo65535CardSaid : Prop := Claim7.holds Tryd.pinned (.plain (OpenSpec.ofChange fnValidPortAcceptsExactlyOneTo65535Spec)) fnValidPortAcceptsExactlyOneTo65535Card
end Rows
end Go.Proofs.Qxb6619765aDoor
