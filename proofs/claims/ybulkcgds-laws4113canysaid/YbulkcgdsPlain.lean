/-
  Plain mathematics: digits, signs and what they spell. No Go in sight.
-/
namespace Go.Proofs.Ybulkcgds

/-- Is the byte a decimal digit? -/
def isD (c : UInt8) : Bool := decide (48 ≤ c.toNat) && decide (c.toNat ≤ 57)
/-- What a row of digits spells. -/
def val (l : List UInt8) : Int := l.foldl (fun n c => n * 10 + ((c.toNat : Int) - 48)) 0
/-- The row behind the sign. -/
def body : List UInt8 → List UInt8
  | [] => []
  | c :: r => if c = 43 ∨ c = 45 then r else c :: r
def neg (l : List UInt8) : Bool := l.head? == some 45
/-- One to nine digits. -/
def good (l : List UInt8) : Bool := decide (1 ≤ l.length) && decide (l.length ≤ 9) && l.all isD
/-- What 'parseInteger' answers. -/
def pv (l : List UInt8) : Int := if good (body l) then (if neg l then -val (body l) else val (body l)) else 0

theorem isD_true {c : UInt8} (h1 : 48 ≤ (c.toNat : Int)) (h2 : (c.toNat : Int) ≤ 57) : isD c = true := by
  unfold isD; simp; omega
theorem isD_false {c : UInt8} (h : (c.toNat : Int) < 48 ∨ 57 < (c.toNat : Int)) : isD c = false := by
  unfold isD; simp; omega
theorem isD_bounds {c : UInt8} (h : isD c = true) : 48 ≤ (c.toNat : Int) ∧ (c.toNat : Int) ≤ 57 := by
  unfold isD at h; simp at h; omega
theorem isD_not {c : UInt8} (h : isD c = false) : (c.toNat : Int) < 48 ∨ 57 < (c.toNat : Int) := by
  unfold isD at h; simp at h; omega

theorem val_nil : val [] = 0 := rfl
theorem val_snoc (l : List UInt8) (c : UInt8) : val (l ++ [c]) = val l * 10 + ((c.toNat : Int) - 48) := by
  simp [val, List.foldl_append]
theorem fold_bd (l : List UInt8) : ∀ (a : Int) (m : Nat), 0 ≤ a → a < 10 ^ m → l.all isD = true →
    0 ≤ l.foldl (fun n c => n * 10 + ((c.toNat : Int) - 48)) a ∧ l.foldl (fun n c => n * 10 + ((c.toNat : Int) - 48)) a < 10 ^ (m + l.length) := by
  induction l with
  | nil => intro a m h0 h1 _; exact ⟨h0, h1⟩
  | cons c l ih =>
    intro a m h0 h1 h
    simp only [List.all_cons, Bool.and_eq_true] at h
    have hb := isD_bounds h.1
    have := ih (a * 10 + ((c.toNat : Int) - 48)) (m + 1) (by omega) (by rw [Int.pow_succ]; omega) h.2
    simp only [List.foldl_cons, List.length_cons]
    rw [show m + (l.length + 1) = m + 1 + l.length by omega]
    exact this
theorem val_bd (l : List UInt8) (h : l.all isD = true) : 0 ≤ val l ∧ val l < 10 ^ l.length := by
  have := fold_bd l 0 0 (by decide) (by decide) h
  rwa [Nat.zero_add] at this
theorem pow_le (n : Nat) (h : n ≤ 9) : (10 : Int) ^ n ≤ 1000000000 := by
  match n, h with
  | 0, _ | 1, _ | 2, _ | 3, _ | 4, _ | 5, _ | 6, _ | 7, _ | 8, _ | 9, _ => decide
theorem val_lim {l : List UInt8} (h : l.all isD = true) (hl : l.length ≤ 9) : 0 ≤ val l ∧ val l < 1000000000 := by
  have := val_bd l h
  have := pow_le l.length hl
  omega

theorem all_take_snoc (l : List UInt8) (k : Nat) (h : k < l.length) : (l.take (k + 1)).all isD = ((l.take k).all isD && isD l[k]) := by
  rw [List.take_succ_eq_append_getElem h, List.all_append]; simp only [List.all_cons, List.all_nil, Bool.and_true]
theorem val_take_snoc (l : List UInt8) (k : Nat) (h : k < l.length) : val (l.take (k + 1)) = val (l.take k) * 10 + ((l[k].toNat : Int) - 48) := by
  rw [List.take_succ_eq_append_getElem h, val_snoc]
theorem not_all {l : List UInt8} {k : Nat} (h : k < l.length) (hd : isD l[k] = false) : l.all isD = false := by
  cases h' : l.all isD with
  | false => rfl
  | true => rw [List.all_eq_true.1 h' _ (List.getElem_mem h)] at hd; cases hd

theorem good_parts {l : List UInt8} (h : good l = true) : 1 ≤ l.length ∧ l.length ≤ 9 ∧ l.all isD = true := by
  simp only [good, Bool.and_eq_true, decide_eq_true_eq] at h
  exact ⟨h.1.1, h.1.2, h.2⟩
theorem pv_yes {l : List UInt8} (h : good (body l) = true) : pv l = if neg l then -val (body l) else val (body l) := by simp [pv, h]
theorem pv_no {l : List UInt8} (h : good (body l) = false) : pv l = 0 := by simp [pv, h]
end Go.Proofs.Ybulkcgds
