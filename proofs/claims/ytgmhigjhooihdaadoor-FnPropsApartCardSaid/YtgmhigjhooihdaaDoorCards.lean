/-
  DERIVED. GIVEN WITH THE SEED: THE CARDS: each row of YtgmhigjhooihdaaDoorRows.lean that lists a variable, with what it lists TIED to the program's text (the seventh form; the later family's looks); each row that meets fmt, with fmt's text TOLD by the authors' own Lean function (tested against real Go, not proved from fmt's source: count such statements apart). THE CARD IS WHAT COUNTS. Prove the row's statement (the work); the ties are given (YtgmhigjhooihdaaDoorTie.lean); close each card by the builder's one call (the guide's Derived/Test/ToyasCard.lean, 'card_holds'). Laid BY PROGRAM, IN A SANDBOX (cutbox-door.mjs). By AI agents, Wed Nov 11 2026. No macro, syntax, notation, axiom, sorry.
-/
import Derived.Test.YtgmhigjhooihdaaDoorRows
import GoSem.ClaimSeven
namespace Go.Proofs.YtgmhigjhooihdaaDoor
namespace Rows

/-- THE TIED CARD OF 'laws.FnPropsApart'. -/
def fnPropsApartCard : Claim7 := { stood := { row := fnPropsApartRow, standIns := [], harness := (true, "80a509fc303395edb287d333bddc13dfc83d456489ffc9db8b6c23c4b8724749"), looks := true }, kinds := [], alts := [], laidByText := true, laidKinds := [.data, .listed, .pinned], laidTests := true, laidLooks := .later }
def FnPropsApartCardSaid : Prop := Claim7.holds Tryd.pinned (.plain (OpenSpec.ofChange fnPropsApartSpec)) fnPropsApartCard

/-- THE SECOND FORM's CARD OF 'laws.FnPropsApart'. -/
def fnPropsApartUptoCard : Claim7 := { stood := { row := fnPropsApartUptoRow, standIns := [], harness := (true, "80a509fc303395edb287d333bddc13dfc83d456489ffc9db8b6c23c4b8724749"), looks := true }, kinds := [], alts := [], laidByText := true, laidKinds := [.data, .listed, .pinned], laidTests := true, laidLooks := .later }
def FnPropsApartUptoCardSaid : Prop := Claim7.holds Tryd.pinned (.plain (OpenSpec.upto fnPropsApartSpec)) fnPropsApartUptoCard
end Rows
end Go.Proofs.YtgmhigjhooihdaaDoor
