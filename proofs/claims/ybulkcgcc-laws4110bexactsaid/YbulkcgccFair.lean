/-
  The contracts of '(*view).size' (10) and '(*Peer).fairBufferers' (7).
-/
import Derived.Test.YbulkcgccRows
import Derived.WalkKit
import Derived.WalkSpells
import Derived.WalkLawsBesides
import Derived.ProofKit
import Derived.RegionTactic
import Derived.Deep.QuietTactic
import Derived.BigQuiet
import Derived.Outline
namespace Go.Proofs.Ybulkcgcc
open Go.ChangeShapes Go.WideShapes Go.ChangeAt Go.RowKit
set_option linter.unusedVariables false

theorem ret_int {k : IntKind} {a b : Int} (h : a = b) : Ending.returned (.int k a) = .returned (.int k b) := by rw [h]

theorem size_nil (b off : Nat) (p : Int) (n c : Nat) (w : World) (h1 : w.cell? ⟨b, off + 1, none⟩ = some (.int .i64 p)) (h2 : w.cell? ⟨b, off + 2, none⟩ = some (.slice none 0 0)) :
    Calls Yba.prog 10 #[.pointer (some ⟨b, off, none⟩)] w fun e w' => e = .returned (.int .i64 (wrap64 (p - 1))) ∧ w' = w := by
  have hnil := fun (w : World) (a : Option Addr) (n c : Nat) => Lib.run_eql_slice_nil (P := Yba.prog) w 25 3 a n c 0 0 Yba.underlying25
  go_enter Yba.func10, Yba.ntmps10
  go_wp2
  go_ret
  exact ⟨rfl, rfl⟩

theorem size_some (b off : Nat) (x : Addr) (n c : Nat) (w : World) (h2 : w.cell? ⟨b, off + 2, none⟩ = some (.slice (some x) n c)) :
    Calls Yba.prog 10 #[.pointer (some ⟨b, off, none⟩)] w fun e w' => e = .returned (.int .i64 n) ∧ w' = w := by
  have hnil := fun (w : World) (a : Option Addr) (n c : Nat) => Lib.run_eql_slice_nil (P := Yba.prog) w 25 3 a n c 0 0 Yba.underlying25
  go_enter Yba.func10, Yba.ntmps10
  go_wp2
  go_ret
  exact ⟨rfl, rfl⟩

/-- The lesser of the two, under a name that the walk does not open. -/
def mn (p q : Int) : Int := if p < q then p else q
theorem mn_le_left (p q : Int) : mn p q ≤ p := by unfold mn; split <;> omega
theorem mn_le_right (p q : Int) : mn p q ≤ q := by unfold mn; split <;> omega
theorem mn_one (p q : Int) : mn p q = p ∨ mn p q = q := by unfold mn; split <;> simp

/-- 'fairBufferers' where the view is empty. -/
theorem fair_zero (b off : Nat) (w : World) (hs : Hid (Calls Yba.prog 10 #[.pointer (some ⟨b, off + 82, none⟩)] w fun e w' => e = .returned (.int .i64 0) ∧ w' = w)) :
    Calls Yba.prog 7 #[.pointer (some ⟨b, off, none⟩)] w fun e w' => e = .returned (.int .i64 0) ∧ w' = w := by
  go_enter Yba.func7, Yba.ntmps7
  go_wp2_with (go_at_call 10; refine hs.out.mono ?_; rintro e w' ⟨rfl, rfl⟩)
  go_ret
  exact ⟨rfl, rfl⟩

/-- 'fairBufferers' where it is not: the lesser of the two. -/
theorem fair_min (b off : Nat) (n p q : Int) (w : World) (hn : (n == 0) = false) (hs : Hid (Calls Yba.prog 10 #[.pointer (some ⟨b, off + 82, none⟩)] w fun e w' => e = .returned (.int .i64 n) ∧ w' = w))
    (hp : w.cell? ⟨b, off + 1, none⟩ = some (.int .i64 p)) (hq : w.cell? ⟨b, off + 8, none⟩ = some (.int .i64 q)) :
    Calls Yba.prog 7 #[.pointer (some ⟨b, off, none⟩)] w fun e w' => e = .returned (.int .i64 (mn p q)) ∧ ∃ k, w' = w.drewN k := by
  go_enter Yba.func7, Yba.ntmps7
  go_wp2_with (go_at_call 10; refine hs.out.mono ?_; rintro e w' ⟨rfl, rfl⟩)
  go_quiet (fail)
  go_wp2
  all_goals
    go_ret
    exact ⟨ret_int (by unfold mn; split <;> omega), nq, rfl⟩

/-- A new Peer's 170 cells, unnamed. -/
theorem zero109 : ∃ zs : Array Value, zs.size = 170 ∧ ∀ w : World, (zeroValue 109).run Yba.prog w = .ok (.agg zs) w := by
  have h : (Yba.prog.info? 109).map (fun i => match i.zero with | some (.agg cs) => cs.size | _ => 0) = some 170 := by kernel_rfl
  cases hi : Yba.prog.info? 109 with
  | none => rw [hi] at h; cases h
  | some i =>
    rw [hi] at h
    simp only [Option.map_some, Option.some.injEq] at h
    split at h
    · rename_i cs hz
      exact ⟨cs, h, fun w => by simp [zeroValue, typeInfo, hi, hz]⟩
    · cases h
end Go.Proofs.Ybulkcgcc
