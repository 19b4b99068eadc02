/-
  DERIVED. GIVEN WITH THE SEED: THE CARDS: each row of YtackciefmdiphaaDoorRows.lean that lists a variable, with what it lists TIED to the program's text (the seventh form; the later family's looks); each row that meets fmt, with fmt's text TOLD by the authors' own Lean function (tested against real Go, not proved from fmt's source: count such statements apart). THE CARD IS WHAT COUNTS. Prove the row's statement (the work); the ties are given (YtackciefmdiphaaDoorTie.lean); close each card by the builder's one call (the guide's Derived/Test/ToyasCard.lean, 'card_holds'). Laid BY PROGRAM, IN A SANDBOX (cutbox-door.mjs). By AI agents, Wed Nov 11 2026. No macro, syntax, notation, axiom, sorry.
-/
import Derived.Test.YtackciefmdiphaaDoorRows
import GoSem.ClaimSeven
namespace Go.Proofs.YtackciefmdiphaaDoor
namespace Rows

/-- THE TIED CARD OF 'laws.FnLoadForms'. -/
def fnLoadFormsCard : Claim7 := { stood := { row := fnLoadFormsRow, standIns := [], harness := (true, "45bd8c27f4d9b30562c248fdb9657d4a623db73ee8cc4112f1c4baa6471f7621"), looks := true }, kinds := [], alts := [], laidByText := true, laidKinds := [.data, .data, .data, .data, .sentinel, .sentinel, .pinned], laidTests := true, laidLooks := .later }
def FnLoadFormsCardSaid : Prop := Claim7.holds Tryd.pinned (.plain (OpenSpec.ofChange fnLoadFormsSpec)) fnLoadFormsCard

/-- THE SECOND FORM's CARD OF 'laws.FnLoadForms'. -/
def fnLoadFormsUptoCard : Claim7 := { stood := { row := fnLoadFormsUptoRow, standIns := [], harness := (true, "45bd8c27f4d9b30562c248fdb9657d4a623db73ee8cc4112f1c4baa6471f7621"), looks := true }, kinds := [], alts := [], laidByText := true, laidKinds := [.data, .data, .data, .data, .sentinel, .sentinel, .pinned], laidTests := true, laidLooks := .later }
def FnLoadFormsUptoCardSaid : Prop := Claim7.holds Tryd.pinned (.plain (OpenSpec.upto fnLoadFormsSpec)) fnLoadFormsUptoCard
end Rows
end Go.Proofs.YtackciefmdiphaaDoor
