/-
  The contracts of sync.Mutex's TryLock (6, 11), of '(*Session).leafID' (10) and '(*Session).Leaf' (5).
-/
import Derived.Test.YbulkcgdeRows
import Derived.Test.YbulkcgdeLocks
import Derived.WalkKit
import Derived.WalkSpells
import Derived.WalkLawsBesides
import Derived.ProofKit
import Derived.OpenShut
import Derived.Below
import Derived.WalkSmall
import Derived.Defers
import Derived.Deep.QuietTactic
import Derived.BigQuiet
namespace Go.Proofs.Ybulkcgde
open Go.ChangeShapes Go.WideShapes Go.ChangeAt Go.RowKit Go.MuLone
set_option linter.unusedVariables false

set_option maxRecDepth 100000 in
/-- The lock's pointer handed to the race detector's mark: the conversion 64 to 68 turns nothing. -/
theorem converted {a : Addr} {v : Value} {w : World} (hc : w.cell? a = some v) : (convert 64 68 (.pointer (some a))).run Yba.prog w = .ok (.pointer (some a)) w := by
  have hsz := Yba.muLib.room_tIMutex
  obtain ⟨e, n, hsh, hlt, hsp⟩ := World.shape?_of_cell? hc
  obtain ⟨i, hi, hz0⟩ := Option.map_eq_some_iff.1 hsz
  have hz : i.size ≠ 0 := by simpa using hz0
  have hge : ¬ (n ≤ a.off) := by omega
  simp [convert, run_underlying Yba.underlying64, run_underlying Yba.underlying68]
  change Sem.run Yba.prog (bind (underlying 64) _) w = _
  have hz' : Yba.prog.info? 46 = some i := hi
  simp [Conv.seenAt, viewAt, cellsIn, sizeOf, typeInfo, run_underlying Yba.underlying64, run_underlying Yba.underlying68, hi, hz, hsh, hge, Result.andThen]

set_option maxRecDepth 100000 in
/-- '(*internal/sync.Mutex).TryLock', the lock free: it is taken. -/
theorem itrylock_free (a : Addr) (w : World) (hc : w.cell? a = some (.int .i32 0)) (hz : w.frozen? a = false) :
    Calls Yba.prog 11 #[.pointer (some a)] w fun e w' => e = .returned (.bool true) ∧ w' = w.setCell a (.int .i32 1) := by
  have hd : ∀ w, (callFunc 15 #[]).run Yba.prog w = .ok (.value (.tuple #[])) w := disable Yba.muLib
  have he : ∀ w, (callFunc 16 #[]).run Yba.prog w = .ok (.value (.tuple #[])) w := enable Yba.muLib
  have ha : ∀ a w, (callFunc 18 #[.pointer (some a)]).run Yba.prog w = .ok (.value (.tuple #[])) w := acquire Yba.muLib
  have hcas := run_call_cas_hit (P := Yba.prog) Yba.func17 (by kernel_rfl) (by kernel_rfl) (by kernel_rfl) .i32 (by kernel_rfl) (y := 1) hc hz
  have hc' : (w.setCell a (.int .i32 1)).cell? a = some (.int .i32 1) := by simp [go_sem, hc]
  have hcv := converted hc'
  go_enter Yba.func11, Yba.ntmps11
  go_wp2
  go_ret
  exact ⟨rfl, rfl⟩

/-- '(*sync.Mutex).TryLock', the lock free: it is taken. -/
theorem trylock_free (a : Addr) (w : World) (hc : w.cell? a = some (.int .i32 0)) (hz : w.frozen? a = false) :
    Calls Yba.prog 6 #[.pointer (some a)] w fun e w' => e = .returned (.bool true) ∧ w' = w.setCell a (.int .i32 1) := by
  go_enter Yba.func6, Yba.ntmps6
  go_wp2_with (go_at_call 11; refine (itrylock_free _ _ (by simpa using hc) (by simpa using hz)).mono ?_; rintro e w' ⟨rfl, rfl⟩)
  go_ret
  exact ⟨rfl, rfl⟩

/-- '(*Session).leafID' at leaf -1. -/
theorem leafID_none (b : Nat) (k : Int) (w : World) (hk : k < 0) (h : w.cell? ⟨b, 14, none⟩ = some (.int .i64 k)) :
    Calls Yba.prog 10 #[.pointer (some ⟨b, 0, none⟩)] w fun e w' => e = .returned (.string ByteArray.empty) ∧ w' = w := by
  go_enter Yba.func10, Yba.ntmps10
  go_wp2
  go_ret
  exact ⟨rfl, rfl⟩

/-- '(*Session).leafID' at a leaf that is there: the entry's id. -/
theorem leafID_some (b eb k n : Nat) (s : ByteArray) (w : World) (hk : k < n) (hn : n ≤ 1024) (h : w.cell? ⟨b, 14, none⟩ = some (.int .i64 k)) (h9 : w.cell? ⟨b, 9, none⟩ = some (.slice (some ⟨eb, 0, none⟩) n n))
    (hs : w.cell? ⟨eb, k * 14 + 1, none⟩ = some (.string s)) :
    Calls Yba.prog 10 #[.pointer (some ⟨b, 0, none⟩)] w fun e w' => e = .returned (.string s) ∧ ∃ q, w' = w.drewN q := by
  go_enter Yba.func10, Yba.ntmps10
  go_wp2
  go_quiet (fail)
  go_wp2
  go_ret
  exact ⟨rfl, nq, rfl⟩

/-- '(*Session).Leaf' at leaf -1, the lock free. -/
theorem leaf_none (b : Nat) (k : Int) (w : World) (hk : k < 0) (h0 : w.cell? ⟨b, 0, none⟩ = some (.int .i32 0)) (f0 : w.frozen? ⟨b, 0, none⟩ = false) (h : w.cell? ⟨b, 14, none⟩ = some (.int .i64 k)) :
    Calls Yba.prog 5 #[.pointer (some ⟨b, 0, none⟩)] w fun e w' => e = .returned (.string ByteArray.empty) ∧ w' = (w.setCell ⟨b, 0, none⟩ (.int .i32 1)).setCell ⟨b, 0, none⟩ (.int .i32 0) := by
  have h' : (w.setCell ⟨b, 0, none⟩ (.int .i32 1)).cell? ⟨b, 14, none⟩ = some (.int .i64 k) := (World.cell?_setCell_other w ⟨b, 0, none⟩ ⟨b, 14, none⟩ _ (by simp)).trans h
  go_enter_defers Yba.func5, Yba.ntmps5
  go_wp2_with (first
    | (go_at_call 9; refine (lock_free Yba.muLib ⟨b, 0, none⟩ _ h0 f0).mono ?_; rintro e w' ⟨rfl, rfl⟩)
    | (go_at_call 10; refine (leafID_none b k _ hk h').mono ?_; rintro e w' ⟨rfl, rfl⟩))
  refine leaves_cons (f := 7) (args := #[.pointer (some ⟨b, 0, none⟩)]) (by simp) (by simp [go_sem]) ?_
  refine (unlock_deferred Yba.muLib ⟨b, 0, none⟩ .returning _ ?_ ?_).mono ?_
  · exact World.cell?_setCell_same w ⟨b, 0, none⟩ (.int .i32 1) h0
  · simp [f0]
  rintro e u' w'' ⟨rfl, rfl, rfl⟩
  exact ⟨_, results_tmp rfl _ _ _, rfl, rfl⟩

/-- '(*Session).Leaf' at a leaf that is there, the lock free. -/
theorem leaf_some (b eb k n : Nat) (s : ByteArray) (w : World) (hk : k < n) (hn : n ≤ 1024) (hne : eb ≠ b) (h0 : w.cell? ⟨b, 0, none⟩ = some (.int .i32 0)) (f0 : w.frozen? ⟨b, 0, none⟩ = false) (h : w.cell? ⟨b, 14, none⟩ = some (.int .i64 k))
    (h9 : w.cell? ⟨b, 9, none⟩ = some (.slice (some ⟨eb, 0, none⟩) n n)) (hs : w.cell? ⟨eb, k * 14 + 1, none⟩ = some (.string s)) :
    Calls Yba.prog 5 #[.pointer (some ⟨b, 0, none⟩)] w fun e w' => e = .returned (.string s) ∧ ∃ q, w' = ((w.setCell ⟨b, 0, none⟩ (.int .i32 1)).setCell ⟨b, 0, none⟩ (.int .i32 0)).drewN q := by
  have h' : (w.setCell ⟨b, 0, none⟩ (.int .i32 1)).cell? ⟨b, 14, none⟩ = some (.int .i64 k) := (World.cell?_setCell_other w ⟨b, 0, none⟩ ⟨b, 14, none⟩ _ (by simp)).trans h
  have h9' : (w.setCell ⟨b, 0, none⟩ (.int .i32 1)).cell? ⟨b, 9, none⟩ = some (.slice (some ⟨eb, 0, none⟩) n n) := (World.cell?_setCell_other w ⟨b, 0, none⟩ ⟨b, 9, none⟩ _ (by simp)).trans h9
  have hs' : (w.setCell ⟨b, 0, none⟩ (.int .i32 1)).cell? ⟨eb, k * 14 + 1, none⟩ = some (.string s) := (World.cell?_setCell_other w ⟨b, 0, none⟩ ⟨eb, k * 14 + 1, none⟩ _ (by simp)).trans hs
  go_enter_defers Yba.func5, Yba.ntmps5
  go_wp2_with (first
    | (go_at_call 9; refine (lock_free Yba.muLib ⟨b, 0, none⟩ _ h0 f0).mono ?_; rintro e w' ⟨rfl, rfl⟩)
    | (go_at_call 10; refine (leafID_some b eb k n s _ hk hn h' h9' hs').mono ?_; rintro e w' ⟨rfl, q, rfl⟩))
  refine leaves_cons (f := 7) (args := #[.pointer (some ⟨b, 0, none⟩)]) (by simp) (by simp [go_sem]) ?_
  refine (unlock_deferred Yba.muLib ⟨b, 0, none⟩ .returning _ ?_ ?_).mono ?_
  · exact World.cell?_setCell_same w ⟨b, 0, none⟩ (.int .i32 1) h0
  · simp [f0]
  rintro e u' w'' ⟨rfl, rfl, rfl⟩
  exact ⟨_, results_tmp rfl _ _ _, rfl, q, rfl⟩
end Go.Proofs.Ybulkcgde
