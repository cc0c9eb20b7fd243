/-
  The contract of slices.Grow (11) at []byte: the library's own text is walked (after the kit's Derived/Shelf/Spec/SlicesGrow.lean).
-/
import Derived.Test.YbulkcgdsDoorDigits
import Derived.Lib.Walk
import Derived.Lib.SliceRun
import Derived.Lib.AppendZerosOnto
namespace Go.Proofs.YbulkcgdsDoor
open Go.ChangeShapes Go.WideShapes Go.ChangeAt Go.RowKit
set_option linter.unusedVariables false

set_option maxRecDepth 100000 in
theorem grow_room (base : Option Addr) (l c n : Nat) (w : World) (hlc : l ≤ c) (hc63 : c ≤ 9223372036854775807) (hn63 : n ≤ 9223372036854775807) (hroom : l + n ≤ c) :
    Calls Ybad.prog 11 #[.slice base l c, .int .i64 n] w fun e w' => e = .returned (.slice base l c) ∧ w' = w := by
  have h1 : ¬ ((n : Int) < 0) := by omega
  have h2 : wrap64 ((c : Int) - (l : Int)) = (c : Int) - (l : Int) := by unfold wrap64; omega
  have h3 : wrap64 ((n : Int) - ((c : Int) - (l : Int))) = (n : Int) - ((c : Int) - (l : Int)) := by unfold wrap64; omega
  have h4 : ¬ ((n : Int) - ((c : Int) - (l : Int)) > 0) := by omega
  go_enter Ybad.func11, Ybad.ntmps11
  go_wp2
  go_ret
  exact ⟨rfl, rfl⟩

set_option maxHeartbeats 4000000 in
set_option maxRecDepth 100000 in
theorem grow_grow (a : Addr) (l c n : Nat) (cs : List Value) (w : World) (hlc : l ≤ c) (hroom : c < l + n) (hbig : l + n ≤ 140737488355328)
    (hcl : cs.length = c) (hcs : ∀ j v, cs[j]? = some v → w.cell? (a.add j) = some v) :
    Calls Ybad.prog 11 #[.slice (some a) l c, .int .i64 n] w fun e w' =>
      e = .returned (.slice (some ⟨w.heap.size, 0, none⟩) l (grownCap w (l + n) c 5)) ∧
      w' = w.drew.alloc (.cells (cs.toArray ++ Builtin.zeroCells #[.int .u8 0] (l + n - c) ++ Builtin.zeroCells #[.int .u8 0] (grownCap w (l + n) c 5 - (l + n))) 5) := by
  obtain ⟨i0, hi0, hz0, hz1, hz2⟩ := info_parts info5
  have h1 : ¬ ((n : Int) < 0) := by omega
  have h2 : wrap64 ((c : Int) - (l : Int)) = (c : Int) - (l : Int) := by unfold wrap64; omega
  have h3 : wrap64 ((n : Int) - ((c : Int) - (l : Int))) = (n : Int) - ((c : Int) - (l : Int)) := by unfold wrap64; omega
  have h4 : (n : Int) - ((c : Int) - (l : Int)) > 0 := by omega
  have hck : c + (l + n - c) = l + n := by omega
  have hold : (Builtin.firstCells i0.size c (.slice (some a) c c)).run Ybad.prog w.drew = .ok cs.toArray w.drew :=
    run_firstCells_some w.drew i0.size c a c c cs (by rw [hz1, hcl]; omega) (fun j v hj => hcs j v hj)
  have hrz : ∀ ty, (Builtin.append_ #[22, 3] ty #[.slice (some a) c c, .int .i64 ((n : Int) - ((c : Int) - (l : Int)))]).run Ybad.prog w =
      .ok (.slice (some ⟨w.heap.size, 0, none⟩) (l + n) (grownCap w (l + n) c 5)) (w.drew.alloc (.cells (cs.toArray ++ Builtin.zeroCells #[.int .u8 0] (l + n - c) ++ Builtin.zeroCells #[.int .u8 0] (grownCap w (l + n) c 5 - (l + n))) 5)) := fun ty => by
    have h := Lib.run_append_grow_zeros w 22 3 ty 5 i0 (.int .u8 0) .i64 .i64 Ybad.underlying22 Ybad.underlying3 hi0 hz0 (some a) c c cs hold (l + n - c) (by omega) (by omega) (by omega) (by omega)
      (by rw [hz2]; omega)
      (by rw [hck]; exact growslice_fits hroom (by rw [hz2]; omega))
    rw [hck] at h
    rw [show (n : Int) - ((c : Int) - (l : Int)) = ((l + n - c : Nat) : Int) by omega]
    exact h
  have hGn : l + n ≤ grownCap w (l + n) c 5 := grownCap_ge w _ _ _
  obtain ⟨G, hG⟩ : ∃ G, G = grownCap w (l + n) c 5 := ⟨_, rfl⟩
  rw [← hG] at hrz hGn ⊢
  have hG63 : G ≤ 9223372036854775807 := by
    have := grownCap_le_maxLen w (l + n) c 5 (by unfold maxLen; omega)
    rw [← hG] at this
    unfold maxLen at this
    omega
  clear hold hck hG hcs hcl hi0 hz0 hz1 hz2
  go_enter Ybad.func11, Ybad.ntmps11
  obtain ⟨ab, ao, asp⟩ := a
  go_wp2_with (at_builtin; refine Lib.wpList_append_run _ rfl _ _ _ _ rfl _ _ rfl rfl _ _ (hrz _) ?_)
  all_goals (go_ret; exact ⟨rfl, rfl⟩)

/-- slices.Grow on a row of the call's own. -/
theorem grow_any (base g n cap D : Nat) (cur : Array Value) (w : World) (hb : base ≤ g) (hbs : base ≤ w.heap.size) (hg : w.heap[g]? = some (.cells cur 5 (0, 0))) (hn : n ≤ cap) (hc : cur.size = cap) (hm : cap ≤ maxLen) (hn2 : n ≤ 2001) (hD : D ≤ 20) :
    Calls Ybad.prog 11 #[.slice (some ⟨g, 0, none⟩) n cap, .int .i64 (D : Int)] w fun e w' => ∃ g' cap' cur', e = .returned (.slice (some ⟨g', 0, none⟩) n cap') ∧ base ≤ g' ∧ w'.heap[g']? = some (.cells cur' 5 (0, 0)) ∧
      cur'.size = cap' ∧ n + D ≤ cap' ∧ cap' ≤ maxLen ∧ cur'.toList.take n = cur.toList.take n ∧ Below base w w' := by
  have hm' := hm
  unfold maxLen at hm'
  by_cases hr : n + D ≤ cap
  · refine (grow_room (some ⟨g, 0, none⟩) n cap D w hn (by omega) (by omega) hr).mono ?_
    rintro e w' ⟨rfl, rfl⟩
    exact ⟨g, cap, cur, rfl, hb, hg, hc, hr, hm, rfl, Below.refl _ _⟩
  · have hlen : cur.toList.length = cap := by simpa using hc
    refine (grow_grow ⟨g, 0, none⟩ n cap D cur.toList w hn (by omega) (by omega) hlen ?_).mono ?_
    · intro j v hj
      rw [Go.WideShapes.add_plain, Nat.zero_add]
      simp [World.cell?, hg]
      simpa using hj
    rintro e w' ⟨rfl, rfl⟩
    have hge := grownCap_ge w (n + D) cap 5
    have hle := grownCap_le_maxLen w (n + D) cap 5 (by unfold maxLen; omega)
    refine ⟨w.heap.size, grownCap w (n + D) cap 5, _, rfl, hbs, by show (w.heap.push _)[w.heap.size]? = _; exact Array.getElem?_push_size, ?_, hge, hle, ?_, (Below.refl base w).drew.alloc hbs _⟩
    · simp [Builtin.zeroCells]
      omega
    · simp only [Array.toList_append, List.append_assoc]
      rw [List.take_append_of_le_length (by omega)]
end Go.Proofs.YbulkcgdsDoor
