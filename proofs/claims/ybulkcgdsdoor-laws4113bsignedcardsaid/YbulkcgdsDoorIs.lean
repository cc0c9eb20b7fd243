/-
  The contract of 'zzs4113bis' (7): r is pre followed by tail.
-/
import Derived.Test.YbulkcgdsDoorDigits
import Derived.Deep.QuietTactic
import Derived.BigQuiet
namespace Go.Proofs.YbulkcgdsDoor
open Go.ChangeShapes Go.WideShapes Go.ChangeAt Go.RowKit
set_option linter.unusedVariables false

set_option maxRecDepth 100000 in
/-- 'pre' is not empty. -/
theorem is_pre (rb rc b off pc tb tc p t : Nat) (R T : Nat → Int) (w : World) (hp0 : 0 < p) (hp : p ≤ 1024) (ht : t ≤ 64)
    (hr : Hid (∀ i, i < p → w.cell? ⟨rb, i, none⟩ = some (.int .u8 (R i)))) (hpre : Hid (∀ i, i < p → w.cell? ⟨b, off + i, none⟩ = some (.int .u8 (R i))))
    (hrt : Hid (∀ j, j < t → w.cell? ⟨rb, p + j, none⟩ = some (.int .u8 (T j)))) (htl : Hid (∀ j, j < t → w.cell? ⟨tb, j, none⟩ = some (.int .u8 (T j)))) :
    Calls Ybad.prog 7 #[.slice (some ⟨rb, 0, none⟩) (p + t) rc, .slice (some ⟨b, off, none⟩) p pc, .slice (some ⟨tb, 0, none⟩) t tc] w fun e w' => e = .returned (.bool true) ∧ ∃ q, w' = w.drewN q := by
  have hpI : (p : Int) ≤ 1024 := by omega
  have htI : (t : Int) ≤ 64 := by omega
  go_enter Ybad.func7, Ybad.ntmps7
  go_wp2
  go_loopw [7] (fun i wr => ∃ k q : Nat, k ≤ p ∧ i = .int .i64 k ∧ wr = w.drewN q) (fun i _ => p - (intOf i).toNat)
  case atStart => exact ⟨0, 0, Nat.zero_le _, rfl, rfl⟩
  case round =>
    obtain ⟨k, q, hk, rfl, rfl⟩ := hrel
    by_cases hlt : k < p
    · have c1 := hr.out k hlt
      have c2 := hpre.out k hlt
      have hltI : (k : Int) < (p : Int) + (t : Int) := by omega
      go_wp2
      go_quiet (fail)
      go_wp2
      go_roundw
      case rel => exact ⟨k + 1, _, by omega, by go_num, rfl⟩
      case measure => simp [intOf]; omega
    · go_wp2
      go_loopw [8] (fun i wr => ∃ k q : Nat, k ≤ t ∧ i = .int .i64 k ∧ wr = w.drewN q) (fun i _ => t - (intOf i).toNat)
      case atStart => exact ⟨0, q, Nat.zero_le _, rfl, rfl⟩
      case round =>
        obtain ⟨j, q', hj, rfl, rfl⟩ := hrel
        by_cases hlt2 : j < t
        · have c1 := hrt.out j hlt2
          have c2 := htl.out j hlt2
          have hltI : (p : Int) + (j : Int) < (p : Int) + (t : Int) := by omega
          go_wp2
          go_quiet (fail)
          go_wp2
          go_roundw
          case rel => exact ⟨j + 1, _, by omega, by go_num, rfl⟩
          case measure => simp [intOf]; omega
        · go_wp2
          go_ret
          exact ⟨rfl, q', rfl⟩

set_option maxRecDepth 100000 in
/-- 'pre' is empty (nil or not). -/
theorem is_bare (rb rc pc tb tc t : Nat) (pa : Option Addr) (T : Nat → Int) (w : World) (ht : t ≤ 64)
    (hrt : Hid (∀ j, j < t → w.cell? ⟨rb, 0 + j, none⟩ = some (.int .u8 (T j)))) (htl : Hid (∀ j, j < t → w.cell? ⟨tb, j, none⟩ = some (.int .u8 (T j)))) :
    Calls Ybad.prog 7 #[.slice (some ⟨rb, 0, none⟩) t rc, .slice pa 0 pc, .slice (some ⟨tb, 0, none⟩) t tc] w fun e w' => e = .returned (.bool true) ∧ ∃ q, w' = w.drewN q := by
  have htI : (t : Int) ≤ 64 := by omega
  go_enter Ybad.func7, Ybad.ntmps7
  go_wp2
  refine wp_loop_rounds 1 ?_
  rw [rounds_succ]
  go_wp2
  go_loopw [8] (fun i wr => ∃ k q : Nat, k ≤ t ∧ i = .int .i64 k ∧ wr = w.drewN q) (fun i _ => t - (intOf i).toNat)
  case atStart => exact ⟨0, 0, Nat.zero_le _, rfl, rfl⟩
  case round =>
    obtain ⟨j, q', hj, rfl, rfl⟩ := hrel
    by_cases hlt2 : j < t
    · have c1 := hrt.out j hlt2
      rw [Nat.zero_add] at c1
      have c2 := htl.out j hlt2
      go_wp2
      go_quiet (fail)
      go_wp2
      go_roundw
      case rel => exact ⟨j + 1, _, by omega, by go_num, rfl⟩
      case measure => simp [intOf]; omega
    · go_wp2
      go_ret
      exact ⟨rfl, q', rfl⟩
end Go.Proofs.YbulkcgdsDoor
