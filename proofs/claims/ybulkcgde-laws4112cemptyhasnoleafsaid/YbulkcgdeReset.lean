/-
  The contract of '(*Session).reset' (13) on a new session, and of 'emptySession' (8).
-/
import Derived.Test.YbulkcgdeLeaf
import Derived.Deep.MidRow
import Derived.RegionTactic
import Derived.StillTailTactics
namespace Go.Proofs.Ybulkcgde
open Go.ChangeShapes Go.WideShapes Go.ChangeAt Go.RowKit Go.MuLone
set_option linter.unusedVariables false

/-- 'clear' of a map that is empty: nothing turns. -/
theorem run_clear_empty (t k e ty : TypeId) (r clock : Nat) (w : World) (ht : Yba.prog.underlying t = some (.map k e)) (h : w.heap[r]? = some (.map #[] clock)) :
    (Builtin.clear_ #[t] ty #[.map (some r)]).run Yba.prog w = .ok (.tuple #[]) w := by
  obtain ⟨hr, hx⟩ := Array.getElem?_eq_some_iff.1 h
  have e : w.heap.setIfInBounds r (.map #[] clock) = w.heap := by
    rw [← hx, Array.setIfInBounds_def, dif_pos hr, Array.set_getElem_self]
  simp [Builtin.clear_, run_underlying ht, getObj, setObj, Sem.run, hr, hx]
  rw [e]

/-- 'clear' of a nil slice: nothing turns. -/
theorem run_clear_nil (t e ty : TypeId) (w : World) (ht : Yba.prog.underlying t = some (.slice e)) :
    (Builtin.clear_ #[t] ty #[.slice none 0 0]).run Yba.prog w = .ok (.tuple #[]) w := by
  simp [Builtin.clear_, run_underlying ht]

theorem heap_alloc_new (Y : World) (o : Obj) (r : Nat) (h : r = Y.heap.size) : (Y.alloc o).heap[r]? = some o := by
  subst h
  show (Y.heap.push o)[Y.heap.size]? = some o
  exact Array.getElem?_push_size
theorem heap_alloc_new2 (Y : World) (o o' : Obj) (r : Nat) (h : r = Y.heap.size) : ((Y.alloc o).alloc o').heap[r]? = some o := by
  subst h
  have h1 : Y.heap.size < (Y.alloc o).heap.size := by simp
  rw [Below.heap_alloc (Y.alloc o) o' _ h1]
  exact heap_alloc_new Y o _ rfl

theorem region_still_tail {P : Program} {id : Nat} {Q : Exit → Act → World → Prop} {a : Act} {w : World} {l : List Oper} (n : Nat) (hm : P.follows .mixedOrders = true) (hB : Region.lexTailB .any l.toArray n = true)
    (h : wpStill P l.toArray w.drew (fun a' => wpList P l.toArray Q (l.drop n) a' w.drew) (l.take n) a) : (Code.region id l.toArray true).wp P Q a w :=
  wp_region_still_tail n hm hB h

theorem below_setCells' {B : Nat} {a : World} {b : Nat} (hb : B ≤ b) : ∀ (vs : List Value) (o : Nat) (w : World), Below B a w → Below B a (w.setCells b o vs)
  | [], o, w, h => h
  | v :: vs, o, w, h => below_setCells' hb vs (o + 1) _ (h.setCell (p := ⟨b, o, none⟩) hb v)

theorem mixed : Yba.prog.follows .mixedOrders = true := by kernel_rfl
theorem size56 : (Yba.prog.info? 56).map (·.size) = some 23 := by kernel_rfl
abbrev hdr (hid par : ByteArray) : Array Value := #[.string hid, .int .u64 0, .int .i64 0, .pointer none, .string par, .map none]
/-- The session's 23 cells as 'reset' leaves them. -/
abbrev sess (hid par : ByteArray) (m1 m2 : Nat) : Array Value :=
  #[.int .i32 0, .int .u32 0, .string ⟨#[]⟩, .string hid, .int .u64 0, .int .i64 0, .pointer none, .string par, .map none, .slice none 0 0, .map (some m1), .slice none 0 0, .slice none 0 0, .slice none 0 0, .int .i64 (-1), .string ⟨#[]⟩, .map (some m2), .int .i64 0, .bool false, .bool false, .int .i64 0, .pointer none, .bool false]
theorem sess_one (hid par : ByteArray) (m1 m2 : Nat) : (sess hid par m1 m2).all (·.oneCell') = true := by simp [sess, Value.oneCell']

set_option maxRecDepth 100000 in
set_option maxHeartbeats 1000000 in
theorem reset_new (b : Nat) (hid par : ByteArray) (w : World) (hb : b < w.heap.size) (ht : Hid (w.there b 0 23))
    (c10 : w.cell? ⟨b, 10, none⟩ = some (.map none)) (c16 : w.cell? ⟨b, 16, none⟩ = some (.map none)) (c9 : w.cell? ⟨b, 9, none⟩ = some (.slice none 0 0)) (c11 : w.cell? ⟨b, 11, none⟩ = some (.slice none 0 0))
    (c12 : w.cell? ⟨b, 12, none⟩ = some (.slice none 0 0)) (c13 : w.cell? ⟨b, 13, none⟩ = some (.slice none 0 0)) :
    Calls Yba.prog 13 #[.pointer (some ⟨b, 0, none⟩), .agg (hdr hid par)] w fun e w' => e = .returned (.tuple #[]) ∧ Below b w w' ∧ w'.there b 0 23 ∧ ∃ m1 m2, w'.rangeAt b 0 (sess hid par m1 m2).toList := by
  have hmm := @run_makeMap Yba.prog
  have hmn := fun (w : World) (r : Option Nat) => run_eql_map_nil (P := Yba.prog) w 49 9 3 r Yba.underlying49
  have hc1 := fun (Y : World) (o : Obj) (ty : TypeId) (r : Nat) (h : r = Y.heap.size) => run_clear_empty 49 9 3 ty r 0 ((Y.alloc (.map #[] 0)).alloc o) Yba.underlying49 (heap_alloc_new2 Y _ o r h)
  have hc2 := fun (Y : World) (ty : TypeId) (r : Nat) (h : r = Y.heap.size) => run_clear_empty 53 9 9 ty r 0 (Y.alloc (.map #[] 0)) Yba.underlying53 (heap_alloc_new Y _ r h)
  have hc3 := fun (Y : World) (ty : TypeId) => run_clear_nil 24 37 ty Y Yba.underlying24
  have hc4 := fun (Y : World) (ty : TypeId) => run_clear_nil 52 125 ty Y Yba.underlying52
  have hb1 : b < w.heap.size + 1 := by omega
  have hb2 : b < w.heap.size + 1 + 1 := by omega
  have hb3 : b < w.heap.size + 1 + 1 + 1 := by omega
  go_enter Yba.func13, Yba.ntmps13
  go_wp2
  go_quiet (fail)
  go_wp2
  refine region_still_tail 26 mixed (by kernel_rfl) ?_
  simp only [List.take_succ_cons, List.take_zero, List.drop_succ_cons, List.drop_zero]
  repeat still_step
  refine wpStill_nil ?_
  have hth : ((((w.alloc (.cells (hdr hid par) 41)).drewN nq).alloc (.map #[] 0)).alloc (.map #[] 0)).drew.there b 0 23 := fun j hj => by
    have h0 := ht.out j hj
    have h1 : ((((w.alloc (.cells (hdr hid par) 41)).drewN nq).alloc (.map #[] 0)).alloc (.map #[] 0)).drew.cell? ⟨b, 0 + j, none⟩ = w.cell? ⟨b, 0 + j, none⟩ := by
      simp [World.cell?_alloc_past, hb, hb1, hb2]
    have h2 : ((((w.alloc (.cells (hdr hid par) 41)).drewN nq).alloc (.map #[] 0)).alloc (.map #[] 0)).drew.frozen? ⟨b, 0 + j, none⟩ = w.frozen? ⟨b, 0 + j, none⟩ := by
      have := (((((Below.refl w.heap.size w).alloc (Nat.le_refl _) (.cells (hdr hid par) 41)) : Below w.heap.size w _)))
      exact (below_drewN this nq |>.alloc (by simp) (.map #[] 0) |>.alloc (by simp; omega) (.map #[] 0) |>.drew).frozen (p := ⟨b, 0 + j, none⟩) hb
    rw [h1, h2]
    exact h0
  refine wpList_store_mid rfl 56 (.tmp 53) (.tmp 52) rfl b 0 (sess hid par (w.heap.size + 1) (w.heap.size + 1 + 1)) rfl rfl hth size56 (sess_one _ _ _ _) ?_
  go_wp2
  go_end0
  refine ⟨rfl, ?_, World.there_setCells hth _ _ _, _, _, World.rangeAt_setCells_same _ _ _ _ hth⟩
  exact below_setCells' (Nat.le_refl _) _ _ _ ((below_drewN ((Below.refl b w).alloc (Nat.le_of_lt hb) _) nq |>.alloc (by simp; omega) _ |>.alloc (by simp; omega) _).drew)
end Go.Proofs.Ybulkcgde
