/-
  The walk of 'LawS4110BBounds' (5).
-/
import Derived.Test.YbulkcgccFair
import Derived.OpenShut
namespace Go.Proofs.Ybulkcgcc.lawS4110BBounds
open Go.ChangeShapes Go.WideShapes Go.ChangeAt Go.RowKit
set_option linter.unusedVariables false
theorem Yba.info3 : (Yba.prog.info? 3).map (fun i => (i.zero, i.size, i.bytes)) = some (some (.int .i64 0), 1, 8) := by kernel_rfl

theorem grown_drewN {W w' : World} (n : Nat) (h : Grown W w') : Grown W (w'.drewN n) := by
  induction n generalizing w' with
  | zero => exact h
  | succ n ih => exact ih h.drew

/-! ### STEP 1: THE WALK: the Go text returns true. 'Grown w w'': the world has at most new blocks (Derived/RowKit3.lean). Part the cases AHEAD of 'go_enter' where a test parts the walk; take each callee by a contract of your own. -/
set_option maxRecDepth 100000 in
theorem walk (a0 : Int) (a1 : Int) (a2 : Int) (w0 : (Lit.int .i64 a0).wf = true) (w1 : (Lit.int .i64 a1).wf = true) (w2 : (Lit.int .u8 a2).wf = true) (w : World) :
    Calls Yba.prog 5 #[.int .i64 a0, .int .i64 a1, .int .u8 a2] w fun e w' => e = .returned (.bool true) ∧ Grown w w' := by
  obtain ⟨hb1, hb2⟩ := bounds_u8 w2
  obtain ⟨m, hm⟩ : ∃ m : Nat, a2 % 5 + 1 = (m : Int) := ⟨(a2 % 5 + 1).toNat, by omega⟩
  have hm1 : 1 ≤ m := by omega
  have hm5 : m ≤ 5 := by omega
  obtain ⟨i0, hi, hz0, hz1, hz2⟩ := info_parts Yba.info3
  have hmk := fun (w : World) => run_make (P := Yba.prog) w 25 3 i0 (.int .i64 0) Yba.underlying25 hi hz0 .i64 .i64 m m (by omega) (by omega) (by rw [hz2]; omega) (by omega)
  simp only [Int.toNat_natCast, hz1, Nat.mul_one] at hmk
  clear hi hz0 hz1 hz2
  obtain ⟨zs, hzs, hzv⟩ := zero109
  go_enter Yba.func5, Yba.ntmps5
  go_wp2
  go_loopw [9] (fun i wr => ∃ k : Nat, k ≤ m ∧ i = .int .i64 k ∧ ∃ cs : Array Value, cs.size = m ∧ wr = w.alloc (.cells cs 3)) (fun i _ => m - (intOf i).toNat)
  case atStart => exact ⟨0, Nat.zero_le _, rfl, _, size_madeCells _ _, rfl⟩
  case round =>
    obtain ⟨k, hk, rfl, cs, hcs, rfl⟩ := hrel
    by_cases hlt : k < m
    · have hget : cs[k]? = some cs[k] := by simp [hcs, hlt]
      go_wp2
      go_roundw
      case rel => exact ⟨k + 1, by omega, by go_num, _, by simpa using hcs, rfl⟩
      case measure => simp [intOf]; omega
    · have hne : ((m : Int) == 0) = false := by simp; omega
      go_wp2_with fail
      refine (fair_min (w.heap.size + 1) 0 m a1 a0 _ hne (show Hid _ from size_some (w.heap.size + 1) 82 ⟨w.heap.size, 0, none⟩ m m _ ?_) ?_ ?_).mono ?_
      · simp [hzs]
      · simp [hzs]
      · simp [hzs]
      rintro e w' ⟨rfl, nq, rfl⟩
      have l1 := mn_le_left a1 a0
      have l2 := mn_le_right a1 a0
      rcases mn_one a1 a0 with h | h
      all_goals
        go_wp2
        all_goals
          go_ret
          exact ⟨rfl, grown_drewN nq (((Grown.refl _).alloc _ _).alloc _ _)⟩
end Go.Proofs.Ybulkcgcc.lawS4110BBounds
