/-
  DERIVED. GIVEN WITH THE SEED: THE CARDS: each row of YtcbfoieamcckoaaDoorRows.lean that lists a variable, with what it lists TIED to the program's text (the seventh form; the later family's looks); each row that meets fmt, with fmt's text TOLD by the authors' own Lean function (tested against real Go, not proved from fmt's source: count such statements apart). THE CARD IS WHAT COUNTS. Prove the row's statement (the work); the ties are given (YtcbfoieamcckoaaDoorTie.lean); close each card by the builder's one call (the guide's Derived/Test/ToyasCard.lean, 'card_holds'). Laid BY PROGRAM, IN A SANDBOX (cutbox-door.mjs). By AI agents, Wed Nov 11 2026. No macro, syntax, notation, axiom, sorry.
-/
import Derived.Test.YtcbfoieamcckoaaDoorRows
import GoSem.ClaimSeven
namespace Go.Proofs.YtcbfoieamcckoaaDoor
namespace Rows

/-- THE TIED CARD OF 'laws.FnPropsSeparator'. -/
def fnPropsSeparatorCard : Claim7 := { stood := { row := fnPropsSeparatorRow, standIns := [], harness := (true, "a647ed0bff6a03238bad529fa39397015c431753c6c619e62a711d9ba3e6e140"), looks := true }, kinds := [], alts := [], laidByText := true, laidKinds := [.data, .listed, .pinned], laidTests := true, laidLooks := .later }
def FnPropsSeparatorCardSaid : Prop := Claim7.holds Tryd.pinned (.plain (OpenSpec.ofChange fnPropsSeparatorSpec)) fnPropsSeparatorCard

/-- THE TIED CARD OF 'laws.FnPropsApart'. -/
def fnPropsApartCard : Claim7 := { stood := { row := fnPropsApartRow, standIns := [], harness := (true, "a647ed0bff6a03238bad529fa39397015c431753c6c619e62a711d9ba3e6e140"), looks := true }, kinds := [], alts := [], laidByText := true, laidKinds := [.data, .listed, .pinned], laidTests := true, laidLooks := .later }
def FnPropsApartCardSaid : Prop := Claim7.holds Tryd.pinned (.plain (OpenSpec.ofChange fnPropsApartSpec)) fnPropsApartCard

/-- THE SECOND FORM's CARD OF 'laws.FnPropsSeparator'. -/
def fnPropsSeparatorUptoCard : Claim7 := { stood := { row := fnPropsSeparatorUptoRow, standIns := [], harness := (true, "a647ed0bff6a03238bad529fa39397015c431753c6c619e62a711d9ba3e6e140"), looks := true }, kinds := [], alts := [], laidByText := true, laidKinds := [.data, .listed, .pinned], laidTests := true, laidLooks := .later }
def FnPropsSeparatorUptoCardSaid : Prop := Claim7.holds Tryd.pinned (.plain (OpenSpec.upto fnPropsSeparatorSpec)) fnPropsSeparatorUptoCard

/-- THE SECOND FORM's CARD OF 'laws.FnPropsApart'. -/
def fnPropsApartUptoCard : Claim7 := { stood := { row := fnPropsApartUptoRow, standIns := [], harness := (true, "a647ed0bff6a03238bad529fa39397015c431753c6c619e62a711d9ba3e6e140"), looks := true }, kinds := [], alts := [], laidByText := true, laidKinds := [.data, .listed, .pinned], laidTests := true, laidLooks := .later }
def FnPropsApartUptoCardSaid : Prop := Claim7.holds Tryd.pinned (.plain (OpenSpec.upto fnPropsApartSpec)) fnPropsApartUptoCard
end Rows
end Go.Proofs.YtcbfoieamcckoaaDoor
