/-
  DERIVED. GIVEN WITH THE SEED: THE CARDS: each row of YbulkcgdsDoorRows.lean that lists a variable, with what it lists TIED to the program's text (the seventh form; the later family's looks); each row that meets fmt, with fmt's text TOLD by the authors' own Lean function (tested against real Go, not proved from fmt's source: count such statements apart). THE CARD IS WHAT COUNTS. Prove the row's statement (the work); the ties are given (YbulkcgdsDoorTie.lean); close each card by the builder's one call (the guide's Derived/Test/ToyasCard.lean, 'card_holds'). Laid BY PROGRAM, IN A SANDBOX (cutbox-door.mjs). By AI agents, Wed Nov 11 2026. No macro, syntax, notation, axiom, sorry.
-/
import Derived.Test.YbulkcgdsDoorRows
import GoSem.ClaimSeven
namespace Go.Proofs.YbulkcgdsDoor
namespace Rows

/-- THE TIED CARD OF 'ridgewire.LawS4113BDecimal'. -/
def lawS4113BDecimalCard : Claim7 := { stood := { row := lawS4113BDecimalRow, standIns := [], harness := (true, "cdcc5dd084358c10d2b5f4d56d0e878de613162fa3cdec2a71dd2345db23bfb9"), looks := false }, kinds := [], alts := [], laidByText := true, laidKinds := [.called], laidTests := true, laidLooks := .later }
def LawS4113BDecimalCardSaid : Prop := Claim7.holds Ybad.pinned (.plain (OpenSpec.ofChange lawS4113BDecimalSpec)) lawS4113BDecimalCard

/-- THE TIED CARD OF 'ridgewire.LawS4113BSpareRoom'. -/
def lawS4113BSpareRoomCard : Claim7 := { stood := { row := lawS4113BSpareRoomRow, standIns := [], harness := (true, "cdcc5dd084358c10d2b5f4d56d0e878de613162fa3cdec2a71dd2345db23bfb9"), looks := false }, kinds := [], alts := [], laidByText := true, laidKinds := [.called], laidTests := true, laidLooks := .later }
def LawS4113BSpareRoomCardSaid : Prop := Claim7.holds Ybad.pinned (.plain (OpenSpec.ofChange lawS4113BSpareRoomSpec)) lawS4113BSpareRoomCard

/-- THE TIED CARD OF 'ridgewire.LawS4113BSigned'. -/
def lawS4113BSignedCard : Claim7 := { stood := { row := lawS4113BSignedRow, standIns := [], harness := (true, "cdcc5dd084358c10d2b5f4d56d0e878de613162fa3cdec2a71dd2345db23bfb9"), looks := false }, kinds := [], alts := [], laidByText := true, laidKinds := [.called], laidTests := true, laidLooks := .later }
def LawS4113BSignedCardSaid : Prop := Claim7.holds Ybad.pinned (.plain (OpenSpec.ofChange lawS4113BSignedSpec)) lawS4113BSignedCard
end Rows
end Go.Proofs.YbulkcgdsDoor
