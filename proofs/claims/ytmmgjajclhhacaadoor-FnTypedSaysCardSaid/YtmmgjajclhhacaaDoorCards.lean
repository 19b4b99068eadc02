/-
  DERIVED. GIVEN WITH THE SEED: THE CARDS: each row of YtmmgjajclhhacaaDoorRows.lean that lists a variable, with what it lists TIED to the program's text (the seventh form; the later family's looks); each row that meets fmt, with fmt's text TOLD by the authors' own Lean function (tested against real Go, not proved from fmt's source: count such statements apart). THE CARD IS WHAT COUNTS. Prove the row's statement (the work); the ties are given (YtmmgjajclhhacaaDoorTie.lean); close each card by the builder's one call (the guide's Derived/Test/ToyasCard.lean, 'card_holds'). Laid BY PROGRAM, IN A SANDBOX (cutbox-door.mjs). By AI agents, Wed Nov 11 2026. No macro, syntax, notation, axiom, sorry.
-/
import Derived.Test.YtmmgjajclhhacaaDoorRows
import GoSem.ClaimSeven
namespace Go.Proofs.YtmmgjajclhhacaaDoor
namespace Rows

/-- THE TIED CARD OF 'laws.FnTypedSays'. -/
def fnTypedSaysCard : Claim7 := { stood := { row := fnTypedSaysRow, standIns := [], harness := (true, "da6e7ad057a6e893261b4bd802b502809a255bc930fd0c9de52639865d93e79b"), looks := true }, kinds := [], alts := [], laidByText := true, laidKinds := [.data, .data, .data, .data, .sentinel, .sentinel, .pinned, .pinned], laidTests := true, laidLooks := .later }
def FnTypedSaysCardSaid : Prop := Claim7.holds Tryd.pinned (.plain (OpenSpec.ofChange fnTypedSaysSpec)) fnTypedSaysCard

/-- THE SECOND FORM's CARD OF 'laws.FnTypedSays'. -/
def fnTypedSaysUptoCard : Claim7 := { stood := { row := fnTypedSaysUptoRow, standIns := [], harness := (true, "da6e7ad057a6e893261b4bd802b502809a255bc930fd0c9de52639865d93e79b"), looks := true }, kinds := [], alts := [], laidByText := true, laidKinds := [.data, .data, .data, .data, .sentinel, .sentinel, .pinned, .pinned], laidTests := true, laidLooks := .later }
def FnTypedSaysUptoCardSaid : Prop := Claim7.holds Tryd.pinned (.plain (OpenSpec.upto fnTypedSaysSpec)) fnTypedSaysUptoCard
end Rows
end Go.Proofs.YtmmgjajclhhacaaDoor
