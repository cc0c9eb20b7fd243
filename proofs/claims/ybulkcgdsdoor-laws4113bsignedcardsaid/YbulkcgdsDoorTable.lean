/-
  The table of digit pairs as the translation bears it, and what it holds.
-/
import Derived.Test.YbulkcgdsDoorGrow
namespace Go.Proofs.YbulkcgdsDoor
open Go.RowKit

abbrev tabD : ByteArray := { data := #[48, 48, 48, 49, 48, 50, 48, 51, 48, 52, 48, 53, 48, 54, 48, 55, 48, 56, 48, 57, 49, 48, 49, 49, 49, 50, 49, 51, 49, 52, 49, 53, 49, 54, 49, 55, 49, 56, 49, 57, 50, 48, 50, 49, 50, 50, 50, 51, 50, 52, 50, 53, 50, 54, 50, 55, 50, 56, 50, 57, 51, 48, 51, 49, 51, 50, 51, 51, 51, 52, 51, 53, 51, 54, 51, 55, 51, 56, 51, 57, 52, 48, 52, 49, 52, 50, 52, 51, 52, 52, 52, 53, 52, 54, 52, 55, 52, 56, 52, 57, 53, 48, 53, 49, 53, 50, 53, 51, 53, 52, 53, 53, 53, 54, 53, 55, 53, 56, 53, 57, 54, 48, 54, 49, 54, 50, 54, 51, 54, 52, 54, 53, 54, 54, 54, 55, 54, 56, 54, 57, 55, 48, 55, 49, 55, 50, 55, 51, 55, 52, 55, 53, 55, 54, 55, 55, 55, 56, 55, 57, 56, 48, 56, 49, 56, 50, 56, 51, 56, 52, 56, 53, 56, 54, 56, 55, 56, 56, 56, 57, 57, 48, 57, 49, 57, 50, 57, 51, 57, 52, 57, 53, 57, 54, 57, 55, 57, 56, 57, 57] }
theorem tab_size : tabD.size = 200 := by decide +kernel
theorem tab_all : ∀ u : Fin 100, (tabD.data[2 * u.val]?.getD 0).toNat = 48 + u.val / 10 ∧ (tabD.data[2 * u.val + 1]?.getD 0).toNat = 48 + u.val % 10 := by decide +kernel

theorem idx (i : Nat) (h1 : i < 200) (w : World) : (Instr.index 9 (.string tabD) (.int .u64 (i : Int))).run Ybad.prog w = .ok (.int .u8 ((tabD.data[i]?.getD 0).toNat : Int)) w := by
  rw [run_index_string w 9 tabD .u64 i Ybad.underlying9, dif_pos ⟨by omega, by rw [tab_size]; omega⟩]
  have h : i < tabD.data.size := by have := tab_size; show i < tabD.size; omega
  rw [Array.getElem?_eq_getElem h]
  rfl
theorem idx0 (x : Int) (u : Nat) (hu : u < 100) (hx : x = 2 * (u : Int)) (w : World) : (Instr.index 9 (.string tabD) (.int .u64 x)).run Ybad.prog w = .ok (.int .u8 (48 + (u : Int) / 10)) w := by
  have h := idx (2 * u) (by omega) w
  have ht := (tab_all ⟨u, hu⟩).1
  simp only at ht
  rw [ht] at h
  rw [hx]
  rw [show ((2 * u : Nat) : Int) = 2 * (u : Int) by omega, show ((48 + u / 10 : Nat) : Int) = 48 + (u : Int) / 10 by omega] at h
  exact h
theorem idx1 (x : Int) (u : Nat) (hu : u < 100) (hx : x = 2 * (u : Int) + 1) (w : World) : (Instr.index 9 (.string tabD) (.int .u64 x)).run Ybad.prog w = .ok (.int .u8 (48 + (u : Int) % 10)) w := by
  have h := idx (2 * u + 1) (by omega) w
  have ht := (tab_all ⟨u, hu⟩).2
  simp only at ht
  rw [ht] at h
  rw [hx]
  rw [show ((2 * u + 1 : Nat) : Int) = 2 * (u : Int) + 1 by omega, show ((48 + u % 10 : Nat) : Int) = 48 + (u : Int) % 10 by omega] at h
  exact h
end Go.Proofs.YbulkcgdsDoor
