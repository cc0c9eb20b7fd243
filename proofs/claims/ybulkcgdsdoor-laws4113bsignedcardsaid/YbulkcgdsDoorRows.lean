/-
  NARROWER THAN 'FOR EVERY INPUT', by the rows' own cells (each row's printed sentence says how): LawS4113BDecimal: laid · LawS4113BSpareRoom: laid · LawS4113BSigned: laid.
  DERIVED. THE GIVEN ROWS OF THIS SEAT. 3 by the template 'for every input the law returns true; each argument reads behind the call as it read before'; 0 by the template 'total and deterministic' (their statements: YbulkcgdsDoorTotals.lean).
  GIVEN WITH THE SEED: the statements are not yours to turn. If you find one false, say at which input.
  Laid BY PROGRAM, IN A SANDBOX (cutbox-rows.mjs): the forced cells as the released guide's own fill.sh prints them over the translation 30ce269762a2a007… (all of the seat's roots in one cut). By AI agents, Wed Nov 11 2026. No macro, syntax, notation, axiom, sorry.
-/
import Derived.Test.YbulkcgdsDoorChecked
import GoSem.Claim
import GoSem.ClaimJoined
import GoSem.ClaimMapViews
import Derived.JoinedTies
import Derived.KernelRfl
namespace Go.Proofs.YbulkcgdsDoor
/- THE CELL 'sum', in the pinned program and in every row, IS THE sha256 OF THE DUMP (.gsa) THAT YbulkcgdsDoorProg.lean LOADS. Nothing in Lean hashes anything: it is a label: what it is worth is what the hold of that sum in a sandbox is worth. -/
noncomputable def Ybad.pinned : Pinned := { name := "ybulkcgdsdoor", sum := "30ce269762a2a007e70c40871637778224f69d1b0c9406be23c83711c622f4f8", checked := Ybad.checked }
namespace Rows
def none {H : Type} : Left H := { results := [], args := [] }

/- WHAT THE LISTED PACKAGE-LEVEL VARIABLES READ AS WHEN THE CALL BEGINS. Each datum BY PROGRAM (the guide's laid-datum.mjs) off the statement by which the dump's own 'gosem.cut.vars' lays the variable. In a bare row this is a premise. The card (YbulkcgdsDoorCards.lean) ties it to the program's text. -/
def laid_example_com_ridgewire_ridgewire_powersOfTen {H : Type} : DataW H := .agg [.lit (.int .u64 1), .lit (.int .u64 10), .lit (.int .u64 100), .lit (.int .u64 1000), .lit (.int .u64 10000), .lit (.int .u64 100000), .lit (.int .u64 1000000), .lit (.int .u64 10000000), .lit (.int .u64 100000000), .lit (.int .u64 1000000000), .lit (.int .u64 10000000000), .lit (.int .u64 100000000000), .lit (.int .u64 1000000000000), .lit (.int .u64 10000000000000), .lit (.int .u64 100000000000000), .lit (.int .u64 1000000000000000), .lit (.int .u64 10000000000000000), .lit (.int .u64 100000000000000000), .lit (.int .u64 1000000000000000000), .lit (.int .u64 10000000000000000000)]

/-- 'ridgewire.LawS4113BDecimal': WHATEVER THE INPUT: true; the input reads as it did. -/
def lawS4113BDecimalSpec : ChangeSpec := { name := "lawS4113BDecimal", vars := ["example.com/ridgewire/ridgewire.powersOfTen"], fn := fun _ => fun
  | [d1, d2, g1] => { results := [.lit (.bool true)], args := [d1, d2], vars := [g1] }
  | _ => none }
def lawS4113BDecimalRow : OpenClaim := { program := "ybulkcgdsdoor", sum := "30ce269762a2a007e70c40871637778224f69d1b0c9406be23c83711c622f4f8", func := "example.com/ridgewire/ridgewire.LawS4113BDecimal", spec := "lawS4113BDecimal", named := ["example.com/ridgewire/ridgewire.powersOfTen"], apart := false, laid := [("example.com/ridgewire/ridgewire.powersOfTen", laid_example_com_ridgewire_ridgewire_powersOfTen)] }
def LawS4113BDecimalSaid : Prop := lawS4113BDecimalRow.holds Ybad.pinned (OpenSpec.ofChange lawS4113BDecimalSpec)

/-- ITS FALSE NEIGHBOUR: 'it returns false'. Refute it at one input. -/
def lawS4113BDecimalWrong : ChangeSpec := { name := "lawS4113BDecimal", vars := ["example.com/ridgewire/ridgewire.powersOfTen"], fn := fun _ => fun
  | [d1, d2, g1] => { results := [.lit (.bool false)], args := [d1, d2], vars := [g1] }
  | _ => none }
def LawS4113BDecimalWrongFalsely : Prop := lawS4113BDecimalRow.holds Ybad.pinned (OpenSpec.ofChange lawS4113BDecimalWrong)

/-- 'ridgewire.LawS4113BSpareRoom': WHATEVER THE INPUT: true; the input reads as it did. -/
def lawS4113BSpareRoomSpec : ChangeSpec := { name := "lawS4113BSpareRoom", vars := ["example.com/ridgewire/ridgewire.powersOfTen"], fn := fun _ => fun
  | [d1, d2, d3, g1] => { results := [.lit (.bool true)], args := [d1, d2, d3], vars := [g1] }
  | _ => none }
def lawS4113BSpareRoomRow : OpenClaim := { program := "ybulkcgdsdoor", sum := "30ce269762a2a007e70c40871637778224f69d1b0c9406be23c83711c622f4f8", func := "example.com/ridgewire/ridgewire.LawS4113BSpareRoom", spec := "lawS4113BSpareRoom", named := ["example.com/ridgewire/ridgewire.powersOfTen"], apart := false, laid := [("example.com/ridgewire/ridgewire.powersOfTen", laid_example_com_ridgewire_ridgewire_powersOfTen)] }
def LawS4113BSpareRoomSaid : Prop := lawS4113BSpareRoomRow.holds Ybad.pinned (OpenSpec.ofChange lawS4113BSpareRoomSpec)

/-- ITS FALSE NEIGHBOUR: 'it returns false'. Refute it at one input. -/
def lawS4113BSpareRoomWrong : ChangeSpec := { name := "lawS4113BSpareRoom", vars := ["example.com/ridgewire/ridgewire.powersOfTen"], fn := fun _ => fun
  | [d1, d2, d3, g1] => { results := [.lit (.bool false)], args := [d1, d2, d3], vars := [g1] }
  | _ => none }
def LawS4113BSpareRoomWrongFalsely : Prop := lawS4113BSpareRoomRow.holds Ybad.pinned (OpenSpec.ofChange lawS4113BSpareRoomWrong)

/-- 'ridgewire.LawS4113BSigned': WHATEVER THE INPUT: true; the input reads as it did. -/
def lawS4113BSignedSpec : ChangeSpec := { name := "lawS4113BSigned", vars := ["example.com/ridgewire/ridgewire.powersOfTen"], fn := fun _ => fun
  | [d1, d2, g1] => { results := [.lit (.bool true)], args := [d1, d2], vars := [g1] }
  | _ => none }
def lawS4113BSignedRow : OpenClaim := { program := "ybulkcgdsdoor", sum := "30ce269762a2a007e70c40871637778224f69d1b0c9406be23c83711c622f4f8", func := "example.com/ridgewire/ridgewire.LawS4113BSigned", spec := "lawS4113BSigned", named := ["example.com/ridgewire/ridgewire.powersOfTen"], apart := false, laid := [("example.com/ridgewire/ridgewire.powersOfTen", laid_example_com_ridgewire_ridgewire_powersOfTen)] }
def LawS4113BSignedSaid : Prop := lawS4113BSignedRow.holds Ybad.pinned (OpenSpec.ofChange lawS4113BSignedSpec)

/-- ITS FALSE NEIGHBOUR: 'it returns false'. Refute it at one input. -/
def lawS4113BSignedWrong : ChangeSpec := { name := "lawS4113BSigned", vars := ["example.com/ridgewire/ridgewire.powersOfTen"], fn := fun _ => fun
  | [d1, d2, g1] => { results := [.lit (.bool false)], args := [d1, d2], vars := [g1] }
  | _ => none }
def LawS4113BSignedWrongFalsely : Prop := lawS4113BSignedRow.holds Ybad.pinned (OpenSpec.ofChange lawS4113BSignedWrong)

end Rows
end Go.Proofs.YbulkcgdsDoor
