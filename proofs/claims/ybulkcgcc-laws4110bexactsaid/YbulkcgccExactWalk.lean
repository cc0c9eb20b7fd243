/-
  The walk of 'LawS4110BExact' (4), case by case; its model 'zzs4110bmodel' (8) by a contract.
-/
import Derived.Test.YbulkcgccFair
import Derived.OpenShut
import Derived.ChangeOld
import Derived.Below
import Derived.WalkSmall
namespace Go.Proofs.Ybulkcgcc.lawS4110BExact
open Go.ChangeShapes Go.WideShapes Go.ChangeAt Go.RowKit
set_option linter.unusedVariables false

theorem model_nil0 (a0 a1 a3 : Int) (a : Option Addr) (n c : Nat) (w : World) (h : (wrap64 (a3 - 1) == 0) = true) :
    Calls Yba.prog 8 #[.int .i64 a0, .int .i64 a1, .bool true, .int .i64 a3, .slice a n c] w fun e w' => e = .returned (.int .i64 0) ∧ w' = w := by
  go_enter Yba.func8, Yba.ntmps8
  go_wp2
  go_ret
  exact ⟨rfl, rfl⟩
theorem model_nil1 (a0 a1 a3 : Int) (a : Option Addr) (n c : Nat) (w : World) (h : (wrap64 (a3 - 1) == 0) = false) :
    Calls Yba.prog 8 #[.int .i64 a0, .int .i64 a1, .bool true, .int .i64 a3, .slice a n c] w fun e w' => e = .returned (.int .i64 (mn a1 a0)) ∧ w' = w := by
  go_enter Yba.func8, Yba.ntmps8
  go_wp2
  all_goals
    go_ret
    exact ⟨ret_int (by unfold mn; split <;> omega), rfl⟩
theorem model_len0 (a0 a1 a3 : Int) (a : Option Addr) (c : Nat) (w : World) :
    Calls Yba.prog 8 #[.int .i64 a0, .int .i64 a1, .bool false, .int .i64 a3, .slice a 0 c] w fun e w' => e = .returned (.int .i64 0) ∧ w' = w := by
  go_enter Yba.func8, Yba.ntmps8
  go_wp2
  go_ret
  exact ⟨rfl, rfl⟩
theorem model_len1 (a0 a1 a3 : Int) (a : Option Addr) (n c : Nat) (w : World) (h : ((n : Int) == 0) = false) :
    Calls Yba.prog 8 #[.int .i64 a0, .int .i64 a1, .bool false, .int .i64 a3, .slice a n c] w fun e w' => e = .returned (.int .i64 (mn a1 a0)) ∧ w' = w := by
  go_enter Yba.func8, Yba.ntmps8
  go_wp2
  all_goals
    go_ret
    exact ⟨ret_int (by unfold mn; split <;> omega), rfl⟩

set_option maxRecDepth 100000 in
set_option maxHeartbeats 800000 in
theorem walk_nil1 (a0 a1 a3 : Int) (a4 : Option Addr) (n c : Nat) (w : World) (h : (wrap64 (a3 - 1) == 0) = false) :
    Calls Yba.prog 4 #[.int .i64 a0, .int .i64 a1, .bool true, .int .i64 a3, .slice a4 n c] w fun e w' => e = .returned (.bool true) ∧ Below w.heap.size w w' := by
  obtain ⟨zs, hzs, hzv⟩ := zero109
  have hnil := fun (w : World) (a : Option Addr) (n c : Nat) => Lib.run_eql_slice_nil (P := Yba.prog) w 25 3 a n c 0 0 Yba.underlying25
  go_enter Yba.func4, Yba.ntmps4
  go_wp2_with fail
  refine (fair_min (w.heap.size) 0 (wrap64 (a3 - 1)) a1 a0 _ h (show Hid _ from size_nil (w.heap.size) 82 a3 0 0 _ ?_ ?_) ?_ ?_).mono ?_
  all_goals try (simp [hzs]; done)
  rintro e w' ⟨rfl, nq, rfl⟩
  go_wp2_with fail
  refine (model_nil1 a0 a1 a3 _ _ _ _ h).mono ?_
  rintro e w' ⟨rfl, rfl⟩
  go_wp2
  go_ret
  exact ⟨rfl, below_drewN ((Below.refl _ _).alloc (Nat.le_refl _) _) nq⟩

theorem size_nil0 (b off : Nat) (p : Int) (w : World) (h : (wrap64 (p - 1) == 0) = true) (h1 : w.cell? ⟨b, off + 1, none⟩ = some (.int .i64 p)) (h2 : w.cell? ⟨b, off + 2, none⟩ = some (.slice none 0 0)) :
    Calls Yba.prog 10 #[.pointer (some ⟨b, off, none⟩)] w fun e w' => e = .returned (.int .i64 0) ∧ w' = w := by
  have e : wrap64 (p - 1) = 0 := by simpa using h
  have := size_nil b off p 0 0 w h1 h2
  rwa [e] at this

set_option maxRecDepth 100000 in
set_option maxHeartbeats 800000 in
theorem walk_nil0 (a0 a1 a3 : Int) (a4 : Option Addr) (n c : Nat) (w : World) (h : (wrap64 (a3 - 1) == 0) = true) :
    Calls Yba.prog 4 #[.int .i64 a0, .int .i64 a1, .bool true, .int .i64 a3, .slice a4 n c] w fun e w' => e = .returned (.bool true) ∧ Below w.heap.size w w' := by
  obtain ⟨zs, hzs, hzv⟩ := zero109
  have hnil := fun (w : World) (a : Option Addr) (n c : Nat) => Lib.run_eql_slice_nil (P := Yba.prog) w 25 3 a n c 0 0 Yba.underlying25
  go_enter Yba.func4, Yba.ntmps4
  go_wp2_with fail
  refine (fair_zero (w.heap.size) 0 _ (show Hid _ from size_nil0 (w.heap.size) 82 a3 _ h ?_ ?_)).mono ?_
  all_goals try (simp [hzs]; done)
  rintro e w' ⟨rfl, rfl⟩
  go_wp2_with fail
  refine (model_nil0 a0 a1 a3 _ _ _ _ h).mono ?_
  rintro e w' ⟨rfl, rfl⟩
  go_wp2
  go_ret
  exact ⟨rfl, ((Below.refl _ _).alloc (Nat.le_refl _) _)⟩

set_option maxRecDepth 100000 in
set_option maxHeartbeats 800000 in
theorem walk_some0 (a0 a1 a3 : Int) (x : Addr) (c : Nat) (w : World) :
    Calls Yba.prog 4 #[.int .i64 a0, .int .i64 a1, .bool false, .int .i64 a3, .slice (some x) 0 c] w fun e w' => e = .returned (.bool true) ∧ Below w.heap.size w w' := by
  obtain ⟨zs, hzs, hzv⟩ := zero109
  have hnil := fun (w : World) (a : Option Addr) (n c : Nat) => Lib.run_eql_slice_nil (P := Yba.prog) w 25 3 a n c 0 0 Yba.underlying25
  go_enter Yba.func4, Yba.ntmps4
  go_wp2_with fail
  refine (fair_zero (w.heap.size) 0 _ (show Hid _ from size_some (w.heap.size) 82 x 0 c _ ?_)).mono ?_
  all_goals try (simp [hzs]; done)
  rintro e w' ⟨rfl, rfl⟩
  go_wp2_with fail
  refine (model_len0 a0 a1 a3 _ _ _).mono ?_
  rintro e w' ⟨rfl, rfl⟩
  go_wp2
  go_ret
  exact ⟨rfl, ((Below.refl _ _).alloc (Nat.le_refl _) _)⟩

set_option maxRecDepth 100000 in
set_option maxHeartbeats 800000 in
theorem walk_some1 (a0 a1 a3 : Int) (x : Addr) (n c : Nat) (w : World) (h : ((n : Int) == 0) = false) :
    Calls Yba.prog 4 #[.int .i64 a0, .int .i64 a1, .bool false, .int .i64 a3, .slice (some x) n c] w fun e w' => e = .returned (.bool true) ∧ Below w.heap.size w w' := by
  obtain ⟨zs, hzs, hzv⟩ := zero109
  have hnil := fun (w : World) (a : Option Addr) (n c : Nat) => Lib.run_eql_slice_nil (P := Yba.prog) w 25 3 a n c 0 0 Yba.underlying25
  go_enter Yba.func4, Yba.ntmps4
  go_wp2_with fail
  refine (fair_min (w.heap.size) 0 n a1 a0 _ h (show Hid _ from size_some (w.heap.size) 82 x n c _ ?_) ?_ ?_).mono ?_
  all_goals try (simp [hzs]; done)
  rintro e w' ⟨rfl, nq, rfl⟩
  go_wp2_with fail
  refine (model_len1 a0 a1 a3 _ _ _ _ h).mono ?_
  rintro e w' ⟨rfl, rfl⟩
  go_wp2
  go_ret
  exact ⟨rfl, below_drewN ((Below.refl _ _).alloc (Nat.le_refl _) _) nq⟩

set_option maxRecDepth 100000 in
set_option maxHeartbeats 800000 in
theorem walk_none (a0 a1 a3 : Int)  (w : World) :
    Calls Yba.prog 4 #[.int .i64 a0, .int .i64 a1, .bool false, .int .i64 a3, .slice none 0 0] w fun e w' => e = .returned (.bool true) ∧ Below w.heap.size w w' := by
  obtain ⟨zs, hzs, hzv⟩ := zero109
  have hnil := fun (w : World) (a : Option Addr) (n c : Nat) => Lib.run_eql_slice_nil (P := Yba.prog) w 25 3 a n c 0 0 Yba.underlying25
  go_enter Yba.func4, Yba.ntmps4
  go_wp2_with fail
  refine (fair_zero (w.heap.size + 1) 0 _ (show Hid _ from size_some (w.heap.size + 1) 82 ⟨w.heap.size, 0, none⟩ 0 0 _ ?_)).mono ?_
  all_goals try (simp [hzs]; done)
  rintro e w' ⟨rfl, rfl⟩
  go_wp2_with fail
  refine (model_len0 a0 a1 a3 _ _ _).mono ?_
  rintro e w' ⟨rfl, rfl⟩
  go_wp2
  go_ret
  exact ⟨rfl, ((Below.refl _ _).alloc (Nat.le_refl _) _).alloc (by simp) _⟩
end Go.Proofs.Ybulkcgcc.lawS4110BExact
