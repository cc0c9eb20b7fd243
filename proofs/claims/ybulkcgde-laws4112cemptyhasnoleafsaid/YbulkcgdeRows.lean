/-
  No cell of these rows narrows 'for every input' (looked for: loops, veiled, ifaces, maps, wideKeys, modest, calm, conditions, laid).
  DERIVED. THE GIVEN ROWS OF THIS SEAT. 2 by the template 'for every input the law returns true; each argument reads behind the call as it read before'; 0 by the template 'total and deterministic' (their statements: YbulkcgdeTotals.lean).
  GIVEN WITH THE SEED: the statements are not yours to turn. If you find one false, say at which input.
  Laid BY PROGRAM, IN A SANDBOX (cutbox-rows.mjs): the forced cells as the released guide's own fill.sh prints them over the translation 4b99425c1b5dcb07… (all of the seat's roots in one cut). By AI agents, Wed Nov 11 2026. No macro, syntax, notation, axiom, sorry.
-/
import Derived.Test.YbulkcgdeChecked
import GoSem.Claim
import GoSem.ClaimJoined
import GoSem.ClaimMapViews
import Derived.JoinedTies
import Derived.KernelRfl
namespace Go.Proofs.Ybulkcgde
/- THE CELL 'sum', in the pinned program and in every row, IS THE sha256 OF THE DUMP (.gsa) THAT YbulkcgdeProg.lean LOADS. Nothing in Lean hashes anything: it is a label: what it is worth is what the hold of that sum in a sandbox is worth. -/
noncomputable def Yba.pinned : Pinned := { name := "ybulkcgde", sum := "4b99425c1b5dcb07cc9fa5ef11c322b5883ce4037c839b6cdffc05e0fb387ccb", checked := Yba.checked }
namespace Rows
def none {H : Type} : Left H := { results := [], args := [] }

/-- 'faithful-session.LawS4112CLeafIsChosen': WHATEVER THE INPUT: true; the input reads as it did. -/
def lawS4112CLeafIsChosenSpec : ChangeSpec := { name := "lawS4112CLeafIsChosen", fn := fun _ => fun
  | [d1, d2] => { results := [.lit (.bool true)], args := [d1, d2] }
  | _ => none }
def lawS4112CLeafIsChosenRow : OpenClaim := { program := "ybulkcgde", sum := "4b99425c1b5dcb07cc9fa5ef11c322b5883ce4037c839b6cdffc05e0fb387ccb", func := "example.com/faithful-session/faithful-session.LawS4112CLeafIsChosen", spec := "lawS4112CLeafIsChosen", inPlace := ["(*internal/sync.Mutex).Lock", "internal/race.Disable", "sync/atomic.CompareAndSwapInt32", "internal/race.Enable", "internal/race.Acquire", "(*internal/sync.Mutex).lockSlow", "internal/sync.runtime_canSpin", "internal/sync.runtime_doSpin", "internal/sync.throw", "internal/sync.runtime_nanotime", "internal/sync.runtime_SemacquireMutex", "sync/atomic.AddInt32", "(*internal/sync.Mutex).Unlock", "internal/race.ReleaseMerge", "(*internal/sync.Mutex).unlockSlow", "internal/sync.fatal", "internal/sync.runtime_Semrelease", "(*internal/sync.Mutex).TryLock"], apart := false }
def LawS4112CLeafIsChosenSaid : Prop := lawS4112CLeafIsChosenRow.holds Yba.pinned (OpenSpec.ofChange lawS4112CLeafIsChosenSpec)

/-- ITS FALSE NEIGHBOUR: 'it returns false'. Refute it at one input. -/
def lawS4112CLeafIsChosenWrong : ChangeSpec := { name := "lawS4112CLeafIsChosen", fn := fun _ => fun
  | [d1, d2] => { results := [.lit (.bool false)], args := [d1, d2] }
  | _ => none }
def LawS4112CLeafIsChosenWrongFalsely : Prop := lawS4112CLeafIsChosenRow.holds Yba.pinned (OpenSpec.ofChange lawS4112CLeafIsChosenWrong)

/-- 'faithful-session.LawS4112CEmptyHasNoLeaf': WHATEVER THE INPUT: true; the input reads as it did. -/
def lawS4112CEmptyHasNoLeafSpec : ChangeSpec := { name := "lawS4112CEmptyHasNoLeaf", fn := fun _ => fun
  | [d1, d2] => { results := [.lit (.bool true)], args := [d1, d2] }
  | _ => none }
def lawS4112CEmptyHasNoLeafRow : OpenClaim := { program := "ybulkcgde", sum := "4b99425c1b5dcb07cc9fa5ef11c322b5883ce4037c839b6cdffc05e0fb387ccb", func := "example.com/faithful-session/faithful-session.LawS4112CEmptyHasNoLeaf", spec := "lawS4112CEmptyHasNoLeaf", inPlace := ["(*internal/sync.Mutex).Lock", "internal/race.Disable", "sync/atomic.CompareAndSwapInt32", "internal/race.Enable", "internal/race.Acquire", "(*internal/sync.Mutex).lockSlow", "internal/sync.runtime_canSpin", "internal/sync.runtime_doSpin", "internal/sync.throw", "internal/sync.runtime_nanotime", "internal/sync.runtime_SemacquireMutex", "sync/atomic.AddInt32", "(*internal/sync.Mutex).Unlock", "internal/race.ReleaseMerge", "(*internal/sync.Mutex).unlockSlow", "internal/sync.fatal", "internal/sync.runtime_Semrelease", "(*internal/sync.Mutex).TryLock"], apart := false }
def LawS4112CEmptyHasNoLeafSaid : Prop := lawS4112CEmptyHasNoLeafRow.holds Yba.pinned (OpenSpec.ofChange lawS4112CEmptyHasNoLeafSpec)

/-- ITS FALSE NEIGHBOUR: 'it returns false'. Refute it at one input. -/
def lawS4112CEmptyHasNoLeafWrong : ChangeSpec := { name := "lawS4112CEmptyHasNoLeaf", fn := fun _ => fun
  | [d1, d2] => { results := [.lit (.bool false)], args := [d1, d2] }
  | _ => none }
def LawS4112CEmptyHasNoLeafWrongFalsely : Prop := lawS4112CEmptyHasNoLeafRow.holds Yba.pinned (OpenSpec.ofChange lawS4112CEmptyHasNoLeafWrong)

end Rows
end Go.Proofs.Ybulkcgde
