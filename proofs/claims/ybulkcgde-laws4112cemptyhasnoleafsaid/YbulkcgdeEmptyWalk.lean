/-
  The contract of 'emptySession' (8) and the walk of 'LawS4112CEmptyHasNoLeaf' (4).
-/
import Derived.Test.YbulkcgdeReset
namespace Go.Proofs.Ybulkcgde.lawS4112CEmptyHasNoLeaf
open Go.ChangeShapes Go.WideShapes Go.ChangeAt Go.RowKit Go.MuLone
set_option linter.unusedVariables false

set_option maxRecDepth 100000 in
theorem empty_new (hid par : ByteArray) (w : World) :
    Calls Yba.prog 8 #[.agg (hdr hid par)] w fun e w' => e = .returned (.pointer (some ⟨w.heap.size + 1, 0, none⟩)) ∧ Below w.heap.size w w' ∧ w'.there (w.heap.size + 1) 0 23 ∧ ∃ m1 m2, w'.rangeAt (w.heap.size + 1) 0 (sess hid par m1 m2).toList := by
  go_enter Yba.func8, Yba.ntmps8
  go_wp2_with fail
  refine (reset_new (w.heap.size + 1) hid par _ (by simp) (show Hid _ from fun j hj => ?_) ?_ ?_ ?_ ?_ ?_ ?_).mono ?_
  · constructor
    · simp; omega
    · simp [go_sem]
  · simp
  · simp
  · simp
  · simp
  · simp
  · simp
  rintro e w' ⟨rfl, hb, hth, hr⟩
  go_wp2
  go_ret
  exact ⟨rfl, (((Below.refl _ _).alloc (Nat.le_refl _) _).alloc (by simp) _).trans (hb.mono (by omega)), hth, hr⟩

set_option maxRecDepth 100000 in
theorem walk (hid par : ByteArray) (w : World) :
    Calls Yba.prog 4 #[.string hid, .string par] w fun e w' => e = .returned (.bool true) ∧ Below w.heap.size w w' := by
  go_enter Yba.func4, Yba.ntmps4
  go_wp2_with fail
  refine (empty_new hid par _).mono ?_
  rintro e w1 ⟨rfl, hb, hth, m1, m2, hr⟩
  have c0 : w1.cell? ⟨w.heap.size + 1, 0, none⟩ = some (.int .i32 0) := hr 0 _ rfl
  have c9 : w1.cell? ⟨w.heap.size + 1, 9, none⟩ = some (.slice none 0 0) := by simpa using hr 9 _ rfl
  have c14 : w1.cell? ⟨w.heap.size + 1, 14, none⟩ = some (.int .i64 (-1)) := by simpa using hr 14 _ rfl
  have f0 : w1.frozen? ⟨w.heap.size + 1, 0, none⟩ = false := (hth 0 (by decide)).2
  have HB : Hid (Below w.heap.size w w1) := hb
  clear hr hth hb
  go_wp2_with fail
  refine (leaf_none (w.heap.size + 1) (-1) _ (by decide) c0 f0 c14).mono ?_
  rintro e w' ⟨rfl, rfl⟩
  have d0 : ((w1.setCell ⟨w.heap.size + 1, 0, none⟩ (.int .i32 1)).setCell ⟨w.heap.size + 1, 0, none⟩ (.int .i32 0)).cell? ⟨w.heap.size + 1, 0, none⟩ = some (.int .i32 0) :=
    World.cell?_setCell_same _ _ _ (World.cell?_setCell_same _ _ _ c0)
  go_wp2_with fail
  refine (trylock_free ⟨w.heap.size + 1, 0, none⟩ _ d0 (by simp [f0])).mono ?_
  rintro e w' ⟨rfl, rfl⟩
  go_wp2_with fail
  refine (unlock_held Yba.muLib ⟨w.heap.size + 1, 0, none⟩ _ (World.cell?_setCell_same _ _ _ d0) (by simp [f0])).mono ?_
  rintro e w' ⟨rfl, rfl⟩
  go_wp2
  go_ret
  exact ⟨rfl, (((HB.out.setCell (p := ⟨w.heap.size + 1, 0, none⟩) (Nat.le_succ _) _).setCell (p := ⟨w.heap.size + 1, 0, none⟩) (Nat.le_succ _) _).setCell (p := ⟨w.heap.size + 1, 0, none⟩) (Nat.le_succ _) _).setCell (p := ⟨w.heap.size + 1, 0, none⟩) (Nat.le_succ _) _⟩
end Go.Proofs.Ybulkcgde.lawS4112CEmptyHasNoLeaf
