/-
  No cell of these rows narrows 'for every input' (looked for: loops, veiled, ifaces, maps, wideKeys, modest, calm, conditions, laid).
  DERIVED. THE GIVEN ROWS OF THIS SEAT. 2 by the template 'for every input the law returns true; each argument reads behind the call as it read before'; 0 by the template 'total and deterministic' (their statements: YbulkcgdsTotals.lean).
  GIVEN WITH THE SEED: the statements are not yours to turn. If you find one false, say at which input.
  Laid BY PROGRAM, IN A SANDBOX (cutbox-rows.mjs): the forced cells as the released guide's own fill.sh prints them over the translation ccd36d67b2a74fb8… (all of the seat's roots in one cut). By AI agents, Wed Nov 11 2026. No macro, syntax, notation, axiom, sorry.
-/
import Derived.Test.YbulkcgdsChecked
import GoSem.Claim
import GoSem.ClaimJoined
import GoSem.ClaimMapViews
import Derived.JoinedTies
import Derived.KernelRfl
namespace Go.Proofs.Ybulkcgds
/- THE CELL 'sum', in the pinned program and in every row, IS THE sha256 OF THE DUMP (.gsa) THAT YbulkcgdsProg.lean LOADS. Nothing in Lean hashes anything: it is a label: what it is worth is what the hold of that sum in a sandbox is worth. -/
noncomputable def Yba.pinned : Pinned := { name := "ybulkcgds", sum := "ccd36d67b2a74fb8b256acdba9fdac87ab621a565d81754d3c8ec5bef8c0cf55", checked := Yba.checked }
namespace Rows
def none {H : Type} : Left H := { results := [], args := [] }

/-- 'ridgewire.LawS4113CBuilt': WHATEVER THE INPUT: true; the input reads as it did. -/
def lawS4113CBuiltSpec : ChangeSpec := { name := "lawS4113CBuilt", fn := fun _ => fun
  | [d1, d2] => { results := [.lit (.bool true)], args := [d1, d2] }
  | _ => none }
def lawS4113CBuiltRow : OpenClaim := { program := "ybulkcgds", sum := "ccd36d67b2a74fb8b256acdba9fdac87ab621a565d81754d3c8ec5bef8c0cf55", func := "example.com/ridgewire/ridgewire.LawS4113CBuilt", spec := "lawS4113CBuilt", apart := false }
def LawS4113CBuiltSaid : Prop := lawS4113CBuiltRow.holds Yba.pinned (OpenSpec.ofChange lawS4113CBuiltSpec)

/-- ITS FALSE NEIGHBOUR: 'it returns false'. Refute it at one input. -/
def lawS4113CBuiltWrong : ChangeSpec := { name := "lawS4113CBuilt", fn := fun _ => fun
  | [d1, d2] => { results := [.lit (.bool false)], args := [d1, d2] }
  | _ => none }
def LawS4113CBuiltWrongFalsely : Prop := lawS4113CBuiltRow.holds Yba.pinned (OpenSpec.ofChange lawS4113CBuiltWrong)

/-- 'ridgewire.LawS4113CAny': WHATEVER THE INPUT: true; the input reads as it did. -/
def lawS4113CAnySpec : ChangeSpec := { name := "lawS4113CAny", fn := fun _ => fun
  | [d] => { results := [.lit (.bool true)], args := [d] }
  | _ => none }
def lawS4113CAnyRow : OpenClaim := { program := "ybulkcgds", sum := "ccd36d67b2a74fb8b256acdba9fdac87ab621a565d81754d3c8ec5bef8c0cf55", func := "example.com/ridgewire/ridgewire.LawS4113CAny", spec := "lawS4113CAny", apart := false }
def LawS4113CAnySaid : Prop := lawS4113CAnyRow.holds Yba.pinned (OpenSpec.ofChange lawS4113CAnySpec)

/-- ITS FALSE NEIGHBOUR: 'it returns false'. Refute it at one input. -/
def lawS4113CAnyWrong : ChangeSpec := { name := "lawS4113CAny", fn := fun _ => fun
  | [d] => { results := [.lit (.bool false)], args := [d] }
  | _ => none }
def LawS4113CAnyWrongFalsely : Prop := lawS4113CAnyRow.holds Yba.pinned (OpenSpec.ofChange lawS4113CAnyWrong)

end Rows
end Go.Proofs.Ybulkcgds
