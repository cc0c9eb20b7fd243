/-
  Plain mathematics: decimal digits of a number, and how many there are.
-/
import Derived.Lib.BitFns
namespace Go.Proofs.YbulkcgdsDoor

/-- The last k decimal digits of u, as bytes, the first first. -/
def digs : Nat → Nat → List UInt8
  | 0, _ => []
  | k + 1, u => digs k (u / 10) ++ [UInt8.ofNat (48 + u % 10)]

theorem digs_length : ∀ k u, (digs k u).length = k
  | 0, _ => rfl
  | k + 1, u => by simp [digs, digs_length k]
theorem digs_add (a : Nat) : ∀ b u, digs (a + b) u = digs a (u / 10 ^ b) ++ digs b u
  | 0, u => by simp [digs]
  | b + 1, u => by
    rw [← Nat.add_assoc, digs, digs_add a b (u / 10), digs, List.append_assoc, Nat.div_div_eq_div_mul, Nat.pow_succ, Nat.mul_comm]
theorem digs_one (u : Nat) : digs 1 u = [UInt8.ofNat (48 + u % 10)] := rfl
theorem digs_two (u : Nat) : digs 2 u = [UInt8.ofNat (48 + u / 10 % 10), UInt8.ofNat (48 + u % 10)] := rfl

/-- u has D decimal digits. -/
def Has (D u : Nat) : Prop := 1 ≤ D ∧ 10 ^ (D - 1) ≤ u ∧ u < 10 ^ D

theorem has_unique {a b u : Nat} (ha : Has a u) (hb : Has b u) : a = b := by
  obtain ⟨a1, a2, a3⟩ := ha
  obtain ⟨b1, b2, b3⟩ := hb
  rcases Nat.lt_trichotomy a b with h | h | h
  · exact absurd (Nat.lt_of_lt_of_le a3 (Nat.le_trans (Nat.pow_le_pow_right (by decide) (by omega : a ≤ b - 1)) b2)) (Nat.lt_irrefl _)
  · exact h
  · exact absurd (Nat.lt_of_lt_of_le b3 (Nat.le_trans (Nat.pow_le_pow_right (by decide) (by omega : b ≤ a - 1)) a2)) (Nat.lt_irrefl _)

theorem has_step {D u k : Nat} (h : Has D u) (hk : k < D) : Has (D - k) (u / 10 ^ k) := by
  obtain ⟨h1, h2, h3⟩ := h
  have hp : 0 < 10 ^ k := Nat.pow_pos (by decide)
  refine ⟨by omega, ?_, ?_⟩
  · rw [Nat.le_div_iff_mul_le hp, ← Nat.pow_add]
    rw [show D - k - 1 + k = D - 1 by omega]; exact h2
  · rw [Nat.div_lt_iff_lt_mul hp, ← Nat.pow_add, show D - k + k = D by omega]; exact h3
theorem has_one {D u : Nat} (h : Has D u) (hu : u < 10) : D = 1 := has_unique h ⟨Nat.le_refl _, by
  have := Nat.pow_pos (n := D - 1) (show 0 < 10 by decide)
  have := h.2.1
  omega, hu⟩
theorem has_two {D u : Nat} (h : Has D u) (h1 : 10 ≤ u) (h2 : u < 100) : D = 2 := has_unique h ⟨by decide, h1, h2⟩
theorem has_big {D u : Nat} (h : Has D u) (h1 : 100 ≤ u) : 3 ≤ D := by
  obtain ⟨a1, a2, a3⟩ := h
  rcases Nat.lt_or_ge D 3 with h | h
  · exact absurd (Nat.lt_of_lt_of_le a3 (Nat.le_trans (Nat.pow_le_pow_right (by decide) (by omega : D ≤ 2)) h1)) (Nat.lt_irrefl _)
  · exact h

/-- What the program spells: '0' for zero. -/
def nd (u : Nat) : Nat := if u = 0 then 1 else (List.range 21).findIdx fun k => decide (u < 10 ^ k)
def dec (u : Nat) : List UInt8 := digs (nd u) u

theorem nd_has {u : Nat} (h1 : 1 ≤ u) (h2 : u < 10 ^ 20) : Has (nd u) u := by
  unfold nd
  rw [if_neg (by omega)]
  have hex : ∃ k, k ∈ List.range 21 ∧ decide (u < 10 ^ k) = true := ⟨20, by simp, by simpa using h2⟩
  have hlt : (List.range 21).findIdx (fun k => decide (u < 10 ^ k)) < (List.range 21).length := List.findIdx_lt_length.2 (by obtain ⟨k, a, b⟩ := hex; exact ⟨k, a, b⟩)
  have hp : u < 10 ^ ((List.range 21).findIdx fun k => decide (u < 10 ^ k)) := by
    have := List.findIdx_getElem (w := hlt)
    simpa only [List.getElem_range, decide_eq_true_eq] using this
  have hn : (List.range 21).findIdx (fun k => decide (u < 10 ^ k)) ≠ 0 → ¬ u < 10 ^ ((List.range 21).findIdx (fun k => decide (u < 10 ^ k)) - 1) := fun h => by
    have := List.not_of_lt_findIdx (show (List.range 21).findIdx (fun k => decide (u < 10 ^ k)) - 1 < (List.range 21).findIdx (fun k => decide (u < 10 ^ k)) by omega)
    simpa only [List.getElem_range, decide_eq_false_iff_not] using this
  clear hlt hex
  generalize (List.range 21).findIdx (fun k => decide (u < 10 ^ k)) = F at *
  have hF0 : F ≠ 0 := fun e => by subst e; simp at hp; omega
  exact ⟨by omega, Nat.le_of_not_lt (hn hF0), hp⟩

theorem bitLenAux_gt : ∀ (f x : Nat), x < 2 ^ f → x < 2 ^ Lib.bitLenAux f x
  | 0, x, h => h
  | f + 1, x, h => by
    unfold Lib.bitLenAux
    by_cases hx : x = 0
    · simp [hx]
    · rw [if_neg hx]
      have := bitLenAux_gt f (x / 2) (by rw [Nat.pow_succ] at h; omega)
      rw [Nat.add_comm, Nat.pow_succ]
      omega
theorem bitLen_gt (u : Nat) (h : u < 2 ^ 64) : u < 2 ^ Lib.bitLen u := bitLenAux_gt 64 u h
theorem bitLen_lo (u : Nat) (h1 : 1 ≤ u) (h : u < 2 ^ 64) : 1 ≤ Lib.bitLen u ∧ Lib.bitLen u ≤ 64 ∧ 2 ^ (Lib.bitLen u - 1) ≤ u := by
  have hg := bitLen_gt u h
  have h64 := Lib.bitLen_le u 64 (Nat.le_refl _) h
  have hp : 1 ≤ Lib.bitLen u := by
    rcases Nat.eq_zero_or_pos (Lib.bitLen u) with e | e
    · rw [e] at hg; simp at hg; omega
    · exact e
  refine ⟨hp, h64, ?_⟩
  rcases Nat.lt_or_ge u (2 ^ (Lib.bitLen u - 1)) with e | e
  · have := Lib.bitLen_le u (Lib.bitLen u - 1) (by omega) e
    omega
  · exact e

theorem table : ∀ l : Fin 65, 1 ≤ l.val → 10 ^ (l.val * 1233 / 4096 - 1) ≤ 2 ^ (l.val - 1) ∧ 2 ^ l.val ≤ 10 ^ (l.val * 1233 / 4096 + 1) ∧ l.val * 1233 / 4096 < 20 := by decide +kernel

/-- The count that 'appendUint' reckons. -/
theorem count (u : Nat) (h1 : 1 ≤ u) (h : u < 2 ^ 64) :
    Lib.bitLen u * 1233 / 4096 < 20 ∧ (10 ^ (Lib.bitLen u * 1233 / 4096) ≤ u → Has (Lib.bitLen u * 1233 / 4096 + 1) u) ∧ (u < 10 ^ (Lib.bitLen u * 1233 / 4096) → Has (Lib.bitLen u * 1233 / 4096) u) := by
  obtain ⟨l1, l2, l3⟩ := bitLen_lo u h1 h
  have lg := bitLen_gt u h
  obtain ⟨t1, t2, t3⟩ := table ⟨Lib.bitLen u, by omega⟩ l1
  simp only at t1 t2 t3
  generalize Lib.bitLen u * 1233 / 4096 = d at *
  refine ⟨t3, fun h => ⟨by omega, by simpa using h, by omega⟩, fun h => ?_⟩
  have hd : d ≠ 0 := fun e => by subst e; simp at h; omega
  exact ⟨by omega, by omega, h⟩
end Go.Proofs.YbulkcgdsDoor
