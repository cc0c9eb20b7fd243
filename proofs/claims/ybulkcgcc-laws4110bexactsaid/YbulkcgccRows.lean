/-
  No cell of these rows narrows 'for every input' (looked for: loops, veiled, ifaces, maps, wideKeys, modest, calm, conditions, laid).
  DERIVED. THE GIVEN ROWS OF THIS SEAT. 3 by the template 'for every input the law returns true; each argument reads behind the call as it read before'; 0 by the template 'total and deterministic' (their statements: YbulkcgccTotals.lean).
  GIVEN WITH THE SEED: the statements are not yours to turn. If you find one false, say at which input.
  Laid BY PROGRAM, IN A SANDBOX (cutbox-rows.mjs): the forced cells as the released guide's own fill.sh prints them over the translation 0d024c82f1c40edc… (all of the seat's roots in one cut). By AI agents, Wed Nov 11 2026. No macro, syntax, notation, axiom, sorry.
-/
import Derived.Test.YbulkcgccChecked
import GoSem.Claim
import GoSem.ClaimJoined
import GoSem.ClaimMapViews
import Derived.JoinedTies
import Derived.KernelRfl
namespace Go.Proofs.Ybulkcgcc
/- THE CELL 'sum', in the pinned program and in every row, IS THE sha256 OF THE DUMP (.gsa) THAT YbulkcgccProg.lean LOADS. Nothing in Lean hashes anything: it is a label: what it is worth is what the hold of that sum in a sandbox is worth. -/
noncomputable def Yba.pinned : Pinned := { name := "ybulkcgcc", sum := "0d024c82f1c40edca902d41c128761705b4371816f1f23fbf70c2dc3d6d2bda9", checked := Yba.checked }
namespace Rows
def none {H : Type} : Left H := { results := [], args := [] }

/-- 'protocol.LawS4110ALookup': WHATEVER THE INPUT: true; the input reads as it did. -/
def lawS4110ALookupSpec : ChangeSpec := { name := "lawS4110ALookup", fn := fun _ => fun
  | [d1, d2, d3, d4, d5] => { results := [.lit (.bool true)], args := [d1, d2, d3, d4, d5] }
  | _ => none }
def lawS4110ALookupRow : OpenClaim := { program := "ybulkcgcc", sum := "0d024c82f1c40edca902d41c128761705b4371816f1f23fbf70c2dc3d6d2bda9", func := "example.com/murmurnet/murmurnet/internal/protocol.LawS4110ALookup", spec := "lawS4110ALookup", plainKeys := false, apart := false }
def LawS4110ALookupSaid : Prop := lawS4110ALookupRow.holds Yba.pinned (OpenSpec.ofChange lawS4110ALookupSpec)

/-- ITS FALSE NEIGHBOUR: 'it returns false'. Refute it at one input. -/
def lawS4110ALookupWrong : ChangeSpec := { name := "lawS4110ALookup", fn := fun _ => fun
  | [d1, d2, d3, d4, d5] => { results := [.lit (.bool false)], args := [d1, d2, d3, d4, d5] }
  | _ => none }
def LawS4110ALookupWrongFalsely : Prop := lawS4110ALookupRow.holds Yba.pinned (OpenSpec.ofChange lawS4110ALookupWrong)

/-- 'protocol.LawS4110BExact': WHATEVER THE INPUT: true; the input reads as it did. -/
def lawS4110BExactSpec : ChangeSpec := { name := "lawS4110BExact", fn := fun _ => fun
  | [d1, d2, d3, d4, d5] => { results := [.lit (.bool true)], args := [d1, d2, d3, d4, d5] }
  | _ => none }
def lawS4110BExactRow : OpenClaim := { program := "ybulkcgcc", sum := "0d024c82f1c40edca902d41c128761705b4371816f1f23fbf70c2dc3d6d2bda9", func := "example.com/murmurnet/murmurnet/internal/protocol.LawS4110BExact", spec := "lawS4110BExact", plainKeys := false, apart := false }
def LawS4110BExactSaid : Prop := lawS4110BExactRow.holds Yba.pinned (OpenSpec.ofChange lawS4110BExactSpec)

/-- ITS FALSE NEIGHBOUR: 'it returns false'. Refute it at one input. -/
def lawS4110BExactWrong : ChangeSpec := { name := "lawS4110BExact", fn := fun _ => fun
  | [d1, d2, d3, d4, d5] => { results := [.lit (.bool false)], args := [d1, d2, d3, d4, d5] }
  | _ => none }
def LawS4110BExactWrongFalsely : Prop := lawS4110BExactRow.holds Yba.pinned (OpenSpec.ofChange lawS4110BExactWrong)

/-- 'protocol.LawS4110BBounds': WHATEVER THE INPUT: true; the input reads as it did. -/
def lawS4110BBoundsSpec : ChangeSpec := { name := "lawS4110BBounds", fn := fun _ => fun
  | [d1, d2, d3] => { results := [.lit (.bool true)], args := [d1, d2, d3] }
  | _ => none }
def lawS4110BBoundsRow : OpenClaim := { program := "ybulkcgcc", sum := "0d024c82f1c40edca902d41c128761705b4371816f1f23fbf70c2dc3d6d2bda9", func := "example.com/murmurnet/murmurnet/internal/protocol.LawS4110BBounds", spec := "lawS4110BBounds", plainKeys := false, apart := false }
def LawS4110BBoundsSaid : Prop := lawS4110BBoundsRow.holds Yba.pinned (OpenSpec.ofChange lawS4110BBoundsSpec)

/-- ITS FALSE NEIGHBOUR: 'it returns false'. Refute it at one input. -/
def lawS4110BBoundsWrong : ChangeSpec := { name := "lawS4110BBounds", fn := fun _ => fun
  | [d1, d2, d3] => { results := [.lit (.bool false)], args := [d1, d2, d3] }
  | _ => none }
def LawS4110BBoundsWrongFalsely : Prop := lawS4110BBoundsRow.holds Yba.pinned (OpenSpec.ofChange lawS4110BBoundsWrong)

end Rows
end Go.Proofs.Ybulkcgcc
