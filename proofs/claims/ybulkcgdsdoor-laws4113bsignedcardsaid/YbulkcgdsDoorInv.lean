/-
  The row that 'appendUint' fills, pair by pair: what each round does to it. No walk here.
-/
import Derived.Test.YbulkcgdsDoorSmall
namespace Go.Proofs.YbulkcgdsDoor
open Go.RowKit
set_option linter.unusedVariables false

/-- What was there (n cells), then D cells of which the last 2t hold the last 2t digits of u; j: where the written ones begin. -/
def Inv (base : Nat) (w : World) (g cap n D : Nat) (xs : List Value) (u t j : Nat) (ys : List Value) (wr : World) : Prop :=
  Below base w wr ∧ wr.ownsRow base 5 1 (.slice (some ⟨g, 0, none⟩) (n + D) cap) (n + D) ys ∧ ys.take n = xs ∧ ys.drop j = bytes (digs (2 * t) u) ∧ j + 2 * t = n + D ∧ 2 * t < D ∧ base ≤ g

theorem inv_len {base : Nat} {w : World} {g cap n D : Nat} {xs : List Value} {u t j : Nat} {ys : List Value} {wr : World} (h : Inv base w g cap n D xs u t j ys wr) : ys.length = n + D := by
  have := h.2.1.1; omega

theorem inv_cell {base : Nat} {w : World} {g cap n D : Nat} {xs : List Value} {u t j : Nat} {ys : List Value} {wr : World} (h : Inv base w g cap n D xs u t j ys wr) (i : Nat) (hi : i < n + D) :
    (∃ v, wr.cell? ⟨g, i, none⟩ = some v) ∧ wr.frozen? ⟨g, i, none⟩ = false := by
  have hl := inv_len h
  refine ⟨⟨ys[i], ?_⟩, h.2.1.frozenAt i⟩
  rw [h.2.1.cellAt i (by omega), List.getElem?_eq_getElem]

theorem own_set {w : World} {base g n cap : Nat} {xs : List Value} (h : w.ownsRow base 5 1 (.slice (some ⟨g, 0, none⟩) n cap) n xs) (j : Nat) (u : Value) :
    (w.setCell ⟨g, j, none⟩ u).ownsRow base 5 1 (.slice (some ⟨g, 0, none⟩) n cap) n (xs.set j u) := (h.stored j u).1

theorem drop_set2 (ys : List Value) (j : Nat) (a b : Value) (h : j + 1 < ys.length) : ((ys.set j a).set (j + 1) b).drop j = a :: b :: ys.drop (j + 2) := by
  apply List.ext_getElem?
  intro i
  rw [List.getElem?_drop]
  match i with
  | 0 => simp [show j < ys.length by omega]
  | 1 => simp [h]
  | i + 2 =>
    rw [List.getElem?_set_ne (by omega), List.getElem?_set_ne (by omega)]
    simp only [List.getElem?_cons_succ, List.getElem?_drop]
    congr 1
    omega
theorem drop_set1 (ys : List Value) (j : Nat) (a : Value) (h : j < ys.length) : (ys.set j a).drop j = a :: ys.drop (j + 1) := by
  rw [List.drop_eq_getElem_cons (by simpa using h), List.getElem_set_self, List.drop_set_of_lt (Nat.lt_succ_self j)]

/-- One round: a pair more. -/
theorem inv_step {base : Nat} {w : World} {g cap n D : Nat} {xs : List Value} {u t j : Nat} {ys : List Value} {wr w' : World} {U : Nat} (a b : Int) (h : Inv base w g cap n D xs u t (j + 2) ys wr) (hD : Has D u) (hU : U = u / 10 ^ (2 * t)) (h100 : 100 ≤ U)
    (ha : a = 48 + ((U / 10 : Nat) : Int) % 10) (hb : b = 48 + (U : Int) % 10) (q : Nat) (hw : w' = ((wr.setCell ⟨g, j, none⟩ (.int .u8 a)).setCell ⟨g, j + 1, none⟩ (.int .u8 b)).drewN q) :
    ∃ ys', Inv base w g cap n D xs u (t + 1) j ys' w' := by
  have hl := inv_len h
  obtain ⟨h1, h2, h3, h4, h5, h6, h7⟩ := h
  have hbig : 3 ≤ D - 2 * t := has_big (hU ▸ has_step hD h6) h100
  refine ⟨(ys.set j (.int .u8 a)).set (j + 1) (.int .u8 b), ?_, ?_, ?_, ?_, by omega, by omega, h7⟩
  · rw [hw]
    exact below_drewN ((h1.setCell (p := ⟨g, j, none⟩) h7 _).setCell (p := ⟨g, j + 1, none⟩) h7 _) q
  · rw [hw]
    exact own_set (own_set h2 j _) (j + 1) _
  · rw [List.take_set_of_le (by omega), List.take_set_of_le (by omega)]
    exact h3
  · rw [drop_set2 _ _ _ _ (by omega), h4, show 2 * (t + 1) = 2 + 2 * t by omega, digs_add, ← hU, digs_two, bytes_append]
    simp only [bytes, List.map_cons, List.map_nil, List.cons_append, List.nil_append, dig_val, ha, hb]

theorem list_of_parts {ys xs zs : List Value} {n : Nat} (h1 : ys.take n = xs) (h2 : ys.drop n = zs) : ys = xs ++ zs := by rw [← h1, ← h2, List.take_append_drop]

/-- The end: two digits are left. -/
theorem inv_end2 {base : Nat} {w : World} {g cap n D : Nat} {xs : List Value} {u t j : Nat} {ys : List Value} {wr w' : World} {U : Nat} (a b : Int) (h : Inv base w g cap n D xs u t (j + 2) ys wr) (hD : Has D u) (hnd : nd u = D) (hU : U = u / 10 ^ (2 * t)) (h10 : 10 ≤ U) (h100 : U < 100)
    (ha : a = 48 + ((U / 10 : Nat) : Int) % 10) (hb : b = 48 + (U : Int) % 10) (q : Nat) (hw : w' = ((wr.setCell ⟨g, j, none⟩ (.int .u8 a)).setCell ⟨g, j + 1, none⟩ (.int .u8 b)).drewN q) :
    w'.ownsRow base 5 1 (.slice (some ⟨g, 0, none⟩) (n + D) cap) (n + nd u) (xs ++ bytes (dec u)) ∧ Below base w w' := by
  have hl := inv_len h
  obtain ⟨h1, h2, h3, h4, h5, h6, h7⟩ := h
  have h2D : D - 2 * t = 2 := has_two (hU ▸ has_step hD h6) h10 h100
  obtain rfl : j = n := by omega
  constructor
  · rw [hnd, hw]
    have e : (ys.set j (.int .u8 a)).set (j + 1) (.int .u8 b) = xs ++ bytes (dec u) := by
      refine list_of_parts (n := j) ?_ ?_
      · rw [List.take_set_of_le (by omega), List.take_set_of_le (by omega)]; exact h3
      · unfold dec
        rw [hnd, drop_set2 _ _ _ _ (by omega), h4, show D = 2 + 2 * t by omega, digs_add, ← hU, digs_two, bytes_append]
        simp only [bytes, List.map_cons, List.map_nil, List.cons_append, List.nil_append, dig_val, ha, hb]
    rw [← e]
    exact own_set (own_set h2 j _) (j + 1) _
  · rw [hw]
    exact below_drewN ((h1.setCell (p := ⟨g, j, none⟩) h7 _).setCell (p := ⟨g, j + 1, none⟩) h7 _) q

/-- The end: one digit is left. -/
theorem inv_end1 {base : Nat} {w : World} {g cap n D : Nat} {xs : List Value} {u t j : Nat} {ys : List Value} {wr w' : World} {U : Nat} (b : Int) (h : Inv base w g cap n D xs u t (j + 1) ys wr) (hD : Has D u) (hnd : nd u = D) (hU : U = u / 10 ^ (2 * t)) (h10 : U < 10)
    (hb : b = 48 + (U : Int)) (hw : w' = wr.setCell ⟨g, j, none⟩ (.int .u8 b)) :
    w'.ownsRow base 5 1 (.slice (some ⟨g, 0, none⟩) (n + D) cap) (n + nd u) (xs ++ bytes (dec u)) ∧ Below base w w' := by
  have hl := inv_len h
  obtain ⟨h1, h2, h3, h4, h5, h6, h7⟩ := h
  have h2D : D - 2 * t = 1 := has_one (hU ▸ has_step hD h6) h10
  obtain rfl : j = n := by omega
  constructor
  · rw [hnd, hw]
    have e : ys.set j (.int .u8 b) = xs ++ bytes (dec u) := by
      refine list_of_parts (n := j) ?_ ?_
      · rw [List.take_set_of_le (by omega)]; exact h3
      · unfold dec
        rw [hnd, drop_set1 _ _ _ (by omega), h4, show D = 1 + 2 * t by omega, digs_add, ← hU, digs_one, bytes_append]
        simp only [bytes, List.map_cons, List.map_nil, List.cons_append, List.nil_append, dig_val, hb]
        rw [show (U : Int) % 10 = U by omega]
    rw [← e]
    exact own_set h2 j _
  · rw [hw]
    exact h1.setCell (p := ⟨g, j, none⟩) h7 _
end Go.Proofs.YbulkcgdsDoor
