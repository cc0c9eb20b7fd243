/-
  What the walk of 'LawS4112CLeafIsChosen' leans on: the row of entries that the law itself makes.
-/
import Derived.Test.YbulkcgdeLeaf
import Derived.Deep.MidRow
namespace Go.Proofs.Ybulkcgde.lawS4112CLeafIsChosen
open Go.ChangeShapes Go.WideShapes Go.ChangeAt Go.RowKit Go.MuLone
set_option linter.unusedVariables false

theorem below_setCells {B : Nat} {a : World} {b : Nat} (hb : B ≤ b) : ∀ (vs : List Value) (o : Nat) (w : World), Below B a w → Below B a (w.setCells b o vs)
  | [], o, w, h => h
  | v :: vs, o, w, h => below_setCells hb vs (o + 1) _ (h.setCell (p := ⟨b, o, none⟩) hb v)
theorem size_setCells {b : Nat} : ∀ (vs : List Value) (o : Nat) (w : World), (w.setCells b o vs).heap.size = w.heap.size
  | [], o, w => rfl
  | v :: vs, o, w => (size_setCells vs (o + 1) _).trans (by simp)

/-- The row of n entries in the block behind w's: k of them laid. -/
def Rel (w : World) (n k : Nat) (ss : Nat → ByteArray) (wr : World) : Prop :=
  Below w.heap.size w wr ∧ wr.heap.size = w.heap.size + 1 ∧ wr.there w.heap.size 0 (n * 14) ∧ ∀ j, j < k → wr.cell? ⟨w.heap.size, j * 14 + 1, none⟩ = some (.string (ss j))

theorem rel_start (w : World) (n : Nat) (ss : Nat → ByteArray) (cs : Array Value) (h : cs.size = n * 14) : Rel w n 0 ss (w.alloc (.cells cs 37)) :=
  ⟨(Below.refl _ _).alloc (Nat.le_refl _) _, by simp, fun j hj => ⟨by simp [h, hj], by simp [go_sem]⟩, fun j hj => by omega⟩

theorem rel_step {w wr : World} {n k : Nat} {ss : Nat → ByteArray} (h : Rel w n k ss wr) (hk : k < n) (a b : Value) (rest : List Value) (hr : rest.length = 12) :
    Rel w n (k + 1) ss (wr.setCells w.heap.size (k * 14) (a :: .string (ss k) :: rest)) := by
  obtain ⟨h1, h2, h3, h4⟩ := h
  have hth : ∀ j, j < (a :: Value.string (ss k) :: rest).length → (wr.cell? ⟨w.heap.size, k * 14 + j, none⟩).isSome = true := fun j hj => by
    have := (h3 (k * 14 + j) (by simp at hj; omega)).1
    simpa using this
  refine ⟨below_setCells (Nat.le_refl _) _ _ _ h1, (size_setCells _ _ _).trans h2, World.there_setCells h3 _ _ _, fun j hj => ?_⟩
  by_cases e : j = k
  · subst e
    have := World.cell?_setCells_in w.heap.size (a :: .string (ss j) :: rest) (j * 14) wr hth 1 (by simp)
    simpa using this
  · rw [World.cell?_setCells_out _ _ _ _ _ (fun _ _ => by left; show j * 14 + 1 < k * 14; omega)]
    exact h4 j (by omega)

/-- What the second loop reads: the session's slice of entries, each entry's id, each of the ids that came in; below, all is as it was. -/
def Rel2 (w : World) (n b off : Nat) (ss : Nat → ByteArray) (w2 : World) : Prop :=
  Below w.heap.size w w2 ∧ w2.cell? ⟨w.heap.size + 1, 9, none⟩ = some (.slice (some ⟨w.heap.size, 0, none⟩) n n) ∧
    (∀ j, j < n → w2.cell? ⟨w.heap.size, j * 14 + 1, none⟩ = some (.string (ss j))) ∧ ∀ j, j < n → w2.cell? ⟨b, off + j, none⟩ = some (.string (ss j))

theorem rel2_drewN {w w2 : World} {n b off : Nat} {ss : Nat → ByteArray} (h : Rel2 w n b off ss w2) (q : Nat) : Rel2 w n b off ss (w2.drewN q) :=
  ⟨below_drewN h.1 q, h.2.1, h.2.2.1, h.2.2.2⟩

theorem rel2_setCell {w w2 : World} {n b off : Nat} {ss : Nat → ByteArray} (h : Rel2 w n b off ss w2) (hb : b < w.heap.size) (v : Value) : Rel2 w n b off ss (w2.setCell ⟨w.heap.size + 1, 0, none⟩ v) :=
  ⟨h.1.setCell (p := ⟨w.heap.size + 1, 0, none⟩) (Nat.le_succ _) v, (World.cell?_setCell_other _ _ _ _ (by simp)).trans h.2.1,
    fun j hj => (World.cell?_setCell_other _ _ _ _ (by simp)).trans (h.2.2.1 j hj), fun j hj => (World.cell?_setCell_other _ _ _ _ (fun e => absurd (congrArg Addr.block e) (by show ¬ w.heap.size + 1 = b; omega))).trans (h.2.2.2 j hj)⟩

theorem rel2_start {w wr : World} {n b off : Nat} {ss : Nat → ByteArray} (S : Array Value) (hb : b < w.heap.size) (h1 : Below w.heap.size w wr) (h2 : wr.heap.size = w.heap.size + 1)
    (h4 : ∀ j, j < n → wr.cell? ⟨w.heap.size, j * 14 + 1, none⟩ = some (.string (ss j))) (hc : ∀ i, i < n → w.cell? ⟨b, off + i, none⟩ = some (.string (ss i)))
    (hS : S[9]? = some (.slice (some ⟨w.heap.size, 0, none⟩) n n)) : Rel2 w n b off ss (wr.alloc (.cells S 56)) :=
  ⟨h1.alloc (by omega) _, by rw [World.cell?_alloc_at _ _ _ _ (by omega)]; exact hS, fun j hj => by rw [World.cell?_alloc_past _ _ _ (by omega)]; exact h4 j hj,
    fun j hj => by rw [World.cell?_alloc_past _ _ _ (by omega)]; exact (h1.cell (p := ⟨b, off + j, none⟩) hb).trans (hc j hj)⟩

theorem info37 : (Yba.prog.info? 37).map (fun i => (i.zero.map (·.cells.size), i.size, i.bytes)) = some (some 14, 14, 136) := by kernel_rfl

theorem size37 : (Yba.prog.info? 37).map (·.size) = some 14 := by kernel_rfl

/-- The 14 cells of an entry as the law lays it. -/
abbrev entry (s : ByteArray) : Array Value :=
  #[.string ⟨#[109, 101, 115, 115, 97, 103, 101]⟩, .string s, .string ⟨#[122, 122, 45, 112, 97, 114, 101, 110, 116]⟩, .int .u64 0, .int .i64 0, .pointer none, .pointer none, .pointer none, .pointer none, .pointer none, .pointer none, .pointer none, .pointer none, .pointer none]

theorem entry_one (s : ByteArray) : (entry s).all (·.oneCell') = true := by simp [entry, Value.oneCell']

/-- A new row of n entries: its cells unnamed. -/
theorem make24 (n : Nat) (hn : n ≤ 1024) : ∃ cs : Array Value, cs.size = n * 14 ∧ ∀ w : World, (Instr.makeSlice 24 (.int .i64 n) (.int .i64 n)).run Yba.prog w = .ok (.slice (some ⟨w.heap.size, 0, none⟩) n n) (w.alloc (.cells cs 37)) := by
  have h := info37
  cases hi : Yba.prog.info? 37 with
  | none => rw [hi] at h; cases h
  | some i =>
    rw [hi] at h
    simp only [Option.map_some, Option.some.injEq, Prod.mk.injEq] at h
    obtain ⟨h1, h2, h3⟩ := h
    cases hz : i.zero with
    | none => rw [hz] at h1; cases h1
    | some z =>
      refine ⟨madeCells z.cells (n * 14), size_madeCells _ _, fun w => ?_⟩
      have := run_make (P := Yba.prog) w 24 37 i z Yba.underlying24 hi hz .i64 .i64 n n (by omega) (by omega) (by rw [h3]; omega) (by omega)
      rw [h2] at this
      simpa using this
end Go.Proofs.Ybulkcgde.lawS4112CLeafIsChosen
