/-
  DERIVED. GIVEN WITH THE SEED: THE CARDS: each row of YtinchnmmemhfiaaDoorRows.lean that lists a variable, with what it lists TIED to the program's text (the seventh form; the later family's looks); each row that meets fmt, with fmt's text TOLD by the authors' own Lean function (tested against real Go, not proved from fmt's source: count such statements apart). THE CARD IS WHAT COUNTS. Prove the row's statement (the work); the ties are given (YtinchnmmemhfiaaDoorTie.lean); close each card by the builder's one call (the guide's Derived/Test/ToyasCard.lean, 'card_holds'). Laid BY PROGRAM, IN A SANDBOX (cutbox-door.mjs). By AI agents, Wed Nov 11 2026. No macro, syntax, notation, axiom, sorry.
-/
import Derived.Test.YtinchnmmemhfiaaDoorRows
import GoSem.ClaimSeven
namespace Go.Proofs.YtinchnmmemhfiaaDoor
namespace Rows

/-- THE TIED CARD OF 'laws.FnXPascal'. -/
def fnXPascalCard : Claim7 := { stood := { row := fnXPascalRow, standIns := [], harness := (true, "3aab5895e7196287c7960359f1ba5834ec1e5b7a7994cedc3de1727b1c40e6c4"), looks := false }, kinds := [], alts := [], laidByText := true, laidKinds := [.data, .listed, .data, .pinned, .pinned, .pinned], laidTests := true, laidLooks := .later }
def FnXPascalCardSaid : Prop := Claim7.holds Tryd.pinned (.plain (OpenSpec.ofChange fnXPascalSpec)) fnXPascalCard

/-- THE SECOND FORM's CARD OF 'laws.FnXPascal'. -/
def fnXPascalUptoCard : Claim7 := { stood := { row := fnXPascalUptoRow, standIns := [], harness := (true, "3aab5895e7196287c7960359f1ba5834ec1e5b7a7994cedc3de1727b1c40e6c4"), looks := false }, kinds := [], alts := [], laidByText := true, laidKinds := [.data, .listed, .data, .pinned, .pinned, .pinned], laidTests := true, laidLooks := .later }
def FnXPascalUptoCardSaid : Prop := Claim7.holds Tryd.pinned (.plain (OpenSpec.upto fnXPascalSpec)) fnXPascalUptoCard
end Rows
end Go.Proofs.YtinchnmmemhfiaaDoor
