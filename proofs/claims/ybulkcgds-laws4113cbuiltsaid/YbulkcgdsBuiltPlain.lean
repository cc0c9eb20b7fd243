/-
  Plain mathematics of 'LawS4113CBuilt': the digits that the law lays.
-/
import Derived.Test.YbulkcgdsPlain
namespace Go.Proofs.Ybulkcgds

/-- The digit's byte. -/
def db (x : Int) : UInt8 := UInt8.ofNat (48 + (x % 10).toNat)
/-- The first k digits' bytes. -/
def ds (z : Nat → Int) (k : Nat) : List UInt8 := (List.range k).map fun i => db (z i)

theorem db_toNat (x : Int) : ((db x).toNat : Int) = 48 + x % 10 := by
  unfold db
  rw [UInt8.toNat_ofNat']
  omega
theorem ds_length (z : Nat → Int) (k : Nat) : (ds z k).length = k := by simp [ds]
theorem ds_succ (z : Nat → Int) (k : Nat) : ds z (k + 1) = ds z k ++ [db (z k)] := by simp [ds, List.range_succ]
theorem isD_db (x : Int) : isD (db x) = true := by
  have := db_toNat x
  exact isD_true (by omega) (by omega)
theorem ds_all (z : Nat → Int) (k : Nat) : (ds z k).all isD = true := by
  rw [List.all_eq_true]
  intro x hx
  simp only [ds, List.mem_map] at hx
  obtain ⟨i, _, rfl⟩ := hx
  exact isD_db _
theorem val_ds_succ (z : Nat → Int) (k : Nat) : val (ds z (k + 1)) = val (ds z k) * 10 + z k % 10 := by
  rw [ds_succ, val_snoc, db_toNat]; omega
theorem val_ds_lim (z : Nat → Int) (k : Nat) (h : k ≤ 9) : 0 ≤ val (ds z k) ∧ val (ds z k) < 1000000000 := val_lim (ds_all z k) (by rw [ds_length]; exact h)

theorem good_ds (z : Nat → Int) (n : Nat) : good (ds z n) = (decide (1 ≤ n) && decide (n ≤ 9)) := by
  unfold good; rw [ds_all, ds_length]; simp

theorem body_plus (l : List UInt8) : body (43 :: l) = l := by simp [body]
theorem body_minus (l : List UInt8) : body (45 :: l) = l := by simp [body]
theorem body_ds (z : Nat → Int) (n : Nat) : body (ds z n) = ds z n := by
  cases h : ds z n with
  | nil => rfl
  | cons c r =>
    have hc : isD c = true := List.all_eq_true.1 (ds_all z n) c (by rw [h]; simp)
    have hb := isD_bounds hc
    have n1 : ¬ c = 43 := fun e => by rw [e] at hb; exact absurd hb.1 (by decide)
    have n2 : ¬ c = 45 := fun e => by rw [e] at hb; exact absurd hb.1 (by decide)
    simp [body, n1, n2]
theorem neg_ds (z : Nat → Int) (n : Nat) : neg (ds z n) = false := by
  cases h : ds z n with
  | nil => rfl
  | cons c r =>
    have hc : isD c = true := List.all_eq_true.1 (ds_all z n) c (by rw [h]; simp)
    have hb := isD_bounds hc
    have n2 : ¬ c = 45 := fun e => by rw [e] at hb; exact absurd hb.1 (by decide)
    simp [neg, n2]

theorem ans0 (z : Nat → Int) (n : Nat) (h1 : 1 ≤ n) (h9 : n ≤ 9) : pv (ds z n) = val (ds z n) ∧ good (body (ds z n)) = true := by
  have g : good (body (ds z n)) = true := by rw [body_ds, good_ds]; simp [h1, h9]
  exact ⟨by rw [pv_yes g, neg_ds, body_ds]; rfl, g⟩
theorem ans1 (z : Nat → Int) (n : Nat) (h1 : 1 ≤ n) (h9 : n ≤ 9) : pv (43 :: ds z n) = val (ds z n) ∧ good (body (43 :: ds z n)) = true := by
  have g : good (body (43 :: ds z n)) = true := by rw [body_plus, good_ds]; simp [h1, h9]
  exact ⟨by rw [pv_yes g, body_plus]; rfl, g⟩
theorem ans2 (z : Nat → Int) (n : Nat) (h1 : 1 ≤ n) (h9 : n ≤ 9) : pv (45 :: ds z n) = -val (ds z n) ∧ good (body (45 :: ds z n)) = true := by
  have g : good (body (45 :: ds z n)) = true := by rw [body_minus, good_ds]; simp [h1, h9]
  exact ⟨by rw [pv_yes g, body_minus]; rfl, g⟩
theorem bad0 (z : Nat → Int) (n : Nat) (h : n = 0 ∨ 9 < n) : pv (ds z n) = 0 ∧ good (body (ds z n)) = false := by
  have g : good (body (ds z n)) = false := by rw [body_ds, good_ds]; simp; omega
  exact ⟨pv_no g, g⟩
theorem bad1 (z : Nat → Int) (n : Nat) (h : n = 0 ∨ 9 < n) : pv (43 :: ds z n) = 0 ∧ good (body (43 :: ds z n)) = false := by
  have g : good (body (43 :: ds z n)) = false := by rw [body_plus, good_ds]; simp; omega
  exact ⟨pv_no g, g⟩
theorem bad2 (z : Nat → Int) (n : Nat) (h : n = 0 ∨ 9 < n) : pv (45 :: ds z n) = 0 ∧ good (body (45 :: ds z n)) = false := by
  have g : good (body (45 :: ds z n)) = false := by rw [body_minus, good_ds]; simp; omega
  exact ⟨pv_no g, g⟩
end Go.Proofs.Ybulkcgds
