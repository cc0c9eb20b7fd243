/-
  The walk of 'LawS4112CLeafIsChosen' (3).
-/
import Derived.Test.YbulkcgdeChosenParts
namespace Go.Proofs.Ybulkcgde.lawS4112CLeafIsChosen
open Go.ChangeShapes Go.WideShapes Go.ChangeAt Go.RowKit Go.MuLone
set_option linter.unusedVariables false

set_option maxRecDepth 100000 in
theorem walk_pos (b off n c : Nat) (sel : Int) (ss : Nat → ByteArray) (w : World) (hn0 : 0 < n) (hn : n ≤ 1024) (s0 : 0 ≤ sel) (s1 : sel < 18446744073709551616) (hb : b < w.heap.size) (m : Nat) (hm : m < n) (hsel : sel % ((n : Int) + 1) = (m : Int) + 1)
    (hc : Hid (∀ i, i < n → w.cell? ⟨b, off + i, none⟩ = some (.string (ss i)))) :
    Calls Yba.prog 3 #[.slice (some ⟨b, off, none⟩) n c, .int .u64 sel] w fun e w' => e = .returned (.bool true) ∧ Below w.heap.size w w' := by
  obtain ⟨cs0, hcs0, hmk⟩ := make24 n hn
  go_enter Yba.func3, Yba.ntmps3
  go_wp2
  go_loopw [6] (fun i wr => ∃ k : Nat, k ≤ n ∧ i = .int .i64 k ∧ Rel w n k ss wr) (fun i _ => n - (intOf i).toNat)
  case atStart => exact ⟨0, Nat.zero_le _, rfl, rel_start w n ss cs0 hcs0⟩
  case round =>
    obtain ⟨k, hk, rfl, hr⟩ := hrel
    by_cases hlt : k < n
    · have hck : wr.cell? ⟨b, off + k, none⟩ = some (.string (ss k)) := (hr.1.cell (p := ⟨b, off + k, none⟩) hb).trans (hc.out k hlt)
      have HR : Hid (Rel w n k ss wr) := hr
      clear hr
      have hth : wr.there w.heap.size (k * 14) (entry (ss k)).size := fun j hj => by
        have := HR.out.2.2.1 (k * 14 + j) (by simp at hj; omega)
        simpa using this
      have HT : Hid (wr.there w.heap.size (k * 14) (entry (ss k)).size) := hth
      clear hth
      go_wp2_with (refine wpList_store_mid rfl 37 (.tmp 31) (.tmp 30) rfl w.heap.size (k * 14) (entry (ss k)) ?_ ?_ ?_ ?_ ?_ ?_)
      · rfl
      · rfl
      · exact HT.out
      · exact size37
      · exact entry_one _
      · go_roundw
        case rel => exact ⟨k + 1, by omega, by go_num, rel_step HR.out hlt _ (.int .i64 0) _ rfl⟩
        case measure => simp [intOf]; omega
    · obtain ⟨hb1, hb2, hb3, hb4⟩ := hr
      obtain rfl : n = k := by omega
      have H4 : Hid (∀ j, j < n → wr.cell? ⟨w.heap.size, j * 14 + 1, none⟩ = some (.string (ss j))) := hb4
      have H1 : Hid (Below w.heap.size w wr) := hb1
      have hm4 := hb4 m hm
      have hmc : wr.cell? ⟨b, off + m, none⟩ = some (.string (ss m)) := (hb1.cell (p := ⟨b, off + m, none⟩) hb).trans (hc.out m hm)
      clear hb3 hb4 hb1
      go_wp2_with fail
      refine (leaf_some (w.heap.size + 1) w.heap.size m n (ss m) _ hm hn (by omega) ?_ ?_ ?_ ?_ ?_).mono ?_
      · simp [hb2, World.cell?_alloc_at]
      · simp [hb2, go_sem]
      · simp [hb2, World.cell?_alloc_at]
      · simp [hb2, World.cell?_alloc_at]
      · rw [World.cell?_alloc_past _ _ _ (by omega)]; exact hm4
      rintro e w' ⟨rfl, q, rfl⟩
      go_wp2_with fail
      refine (trylock_free ⟨w.heap.size + 1, 0, none⟩ _ ?_ ?_).mono ?_
      · simp [hb2, World.cell?_alloc_at]
      · simp [hb2, go_sem]
      rintro e w' ⟨rfl, rfl⟩
      go_wp2_with fail
      refine (unlock_held Yba.muLib ⟨w.heap.size + 1, 0, none⟩ _ ?_ ?_).mono ?_
      · exact World.cell?_setCell_same _ _ _ (u := .int .i32 0) (by simp [hb2, World.cell?_alloc_at])
      · simp [hb2, go_sem]
      rintro e w' ⟨rfl, rfl⟩
      go_wp2_with fail
      go_loopw [11] (fun i w2 => ∃ k : Nat, k ≤ n ∧ i = .int .i64 k ∧ Rel2 w n b off ss w2) (fun i _ => n - (intOf i).toNat)
      case atStart => exact ⟨0, Nat.zero_le _, rfl, rel2_setCell (rel2_setCell (rel2_drewN (rel2_start _ hb H1.out hb2 H4.out hc.out rfl) q) hb _) hb _⟩
      case round =>
        obtain ⟨k, hk, rfl, hr⟩ := hrel
        by_cases hlt2 : k < n
        · have g1 := hr.2.1
          have g2 := hr.2.2.1 k hlt2
          have g3 := hr.2.2.2 k hlt2
          have HR : Hid (Rel2 w n b off ss _) := hr
          clear hr
          go_wp2
          go_quiet (fail)
          go_wp2
          go_roundw
          case rel => exact ⟨k + 1, by omega, by go_num, rel2_drewN HR.out _⟩
          case measure => simp [intOf]; omega
        · have HB : Hid (Below w.heap.size w _) := hr.1
          clear hr
          go_wp2
          go_ret
          exact ⟨rfl, HB.out⟩

set_option maxRecDepth 100000 in
theorem walk_neg (b off n c : Nat) (sel : Int) (ss : Nat → ByteArray) (w : World) (hn0 : 0 < n) (hn : n ≤ 1024) (s0 : 0 ≤ sel) (s1 : sel < 18446744073709551616) (hb : b < w.heap.size) (hsel : sel % ((n : Int) + 1) = 0)
    (hc : Hid (∀ i, i < n → w.cell? ⟨b, off + i, none⟩ = some (.string (ss i)))) :
    Calls Yba.prog 3 #[.slice (some ⟨b, off, none⟩) n c, .int .u64 sel] w fun e w' => e = .returned (.bool true) ∧ Below w.heap.size w w' := by
  obtain ⟨cs0, hcs0, hmk⟩ := make24 n hn
  go_enter Yba.func3, Yba.ntmps3
  go_wp2
  go_loopw [6] (fun i wr => ∃ k : Nat, k ≤ n ∧ i = .int .i64 k ∧ Rel w n k ss wr) (fun i _ => n - (intOf i).toNat)
  case atStart => exact ⟨0, Nat.zero_le _, rfl, rel_start w n ss cs0 hcs0⟩
  case round =>
    obtain ⟨k, hk, rfl, hr⟩ := hrel
    by_cases hlt : k < n
    · have hck : wr.cell? ⟨b, off + k, none⟩ = some (.string (ss k)) := (hr.1.cell (p := ⟨b, off + k, none⟩) hb).trans (hc.out k hlt)
      have HR : Hid (Rel w n k ss wr) := hr
      clear hr
      have hth : wr.there w.heap.size (k * 14) (entry (ss k)).size := fun j hj => by
        have := HR.out.2.2.1 (k * 14 + j) (by simp at hj; omega)
        simpa using this
      have HT : Hid (wr.there w.heap.size (k * 14) (entry (ss k)).size) := hth
      clear hth
      go_wp2_with (refine wpList_store_mid rfl 37 (.tmp 31) (.tmp 30) rfl w.heap.size (k * 14) (entry (ss k)) ?_ ?_ ?_ ?_ ?_ ?_)
      · rfl
      · rfl
      · exact HT.out
      · exact size37
      · exact entry_one _
      · go_roundw
        case rel => exact ⟨k + 1, by omega, by go_num, rel_step HR.out hlt _ (.int .i64 0) _ rfl⟩
        case measure => simp [intOf]; omega
    · obtain ⟨hb1, hb2, hb3, hb4⟩ := hr
      obtain rfl : n = k := by omega
      have H4 : Hid (∀ j, j < n → wr.cell? ⟨w.heap.size, j * 14 + 1, none⟩ = some (.string (ss j))) := hb4
      have H1 : Hid (Below w.heap.size w wr) := hb1
      clear hb3 hb4 hb1
      go_wp2_with fail
      refine (leaf_none (w.heap.size + 1) (-1) _ (by decide) ?_ ?_ ?_).mono ?_
      · simp [hb2, World.cell?_alloc_at]
      · simp [hb2, go_sem]
      · simp [hb2, World.cell?_alloc_at]
      rintro e w' ⟨rfl, rfl⟩
      go_wp2_with fail
      refine (trylock_free ⟨w.heap.size + 1, 0, none⟩ _ ?_ ?_).mono ?_
      · simp [hb2, World.cell?_alloc_at]
      · simp [hb2, go_sem]
      rintro e w' ⟨rfl, rfl⟩
      go_wp2_with fail
      refine (unlock_held Yba.muLib ⟨w.heap.size + 1, 0, none⟩ _ ?_ ?_).mono ?_
      · simp [hb2, World.cell?_alloc_at]
      · simp [hb2, go_sem]
      rintro e w' ⟨rfl, rfl⟩
      go_wp2_with fail
      go_loopw [11] (fun i w2 => ∃ k : Nat, k ≤ n ∧ i = .int .i64 k ∧ Rel2 w n b off ss w2) (fun i _ => n - (intOf i).toNat)
      case atStart => exact ⟨0, Nat.zero_le _, rfl, rel2_start _ hb H1.out hb2 H4.out hc.out rfl⟩
      case round =>
        obtain ⟨k, hk, rfl, hr⟩ := hrel
        by_cases hlt2 : k < n
        · have g1 := hr.2.1
          have g2 := hr.2.2.1 k hlt2
          have g3 := hr.2.2.2 k hlt2
          have HR : Hid (Rel2 w n b off ss _) := hr
          clear hr
          go_wp2
          go_quiet (fail)
          go_wp2
          go_roundw
          case rel => exact ⟨k + 1, by omega, by go_num, rel2_drewN HR.out _⟩
          case measure => simp [intOf]; omega
        · have HB : Hid (Below w.heap.size w _) := hr.1
          clear hr
          go_wp2
          go_ret
          exact ⟨rfl, HB.out⟩

set_option maxRecDepth 100000 in
theorem walk_zero (a : Option Addr) (c : Nat) (sel : Int) (w : World) (s0 : 0 ≤ sel) (s1 : sel < 18446744073709551616) :
    Calls Yba.prog 3 #[.slice a 0 c, .int .u64 sel] w fun e w' => e = .returned (.bool true) ∧ Below w.heap.size w w' := by
  obtain ⟨cs0, hcs0, hmk0⟩ := make24 0 (by decide)
  have hmk : ∀ w : World, (Instr.makeSlice 24 (.int .i64 0) (.int .i64 0)).run Yba.prog w = .ok (.slice (some ⟨w.heap.size, 0, none⟩) 0 0) (w.alloc (.cells cs0 37)) := hmk0
  clear hmk0
  have hsel : sel % 1 = 0 := by omega
  go_enter Yba.func3, Yba.ntmps3
  go_wp2
  refine wp_loop_rounds 1 ?_
  rw [rounds_succ]
  go_wp2_with fail
  refine (leaf_none (w.heap.size + 1) (-1) _ (by decide) ?_ ?_ ?_).mono ?_
  · simp
  · simp [go_sem]
  · simp
  rintro e w' ⟨rfl, rfl⟩
  go_wp2_with fail
  refine (trylock_free ⟨w.heap.size + 1, 0, none⟩ _ ?_ ?_).mono ?_
  · simp
  · simp [go_sem]
  rintro e w' ⟨rfl, rfl⟩
  go_wp2_with fail
  refine (unlock_held Yba.muLib ⟨w.heap.size + 1, 0, none⟩ _ ?_ ?_).mono ?_
  · simp
  · simp [go_sem]
  rintro e w' ⟨rfl, rfl⟩
  go_wp2_with fail
  refine wp_loop_rounds 1 ?_
  rw [rounds_succ]
  go_wp2
  go_ret
  exact ⟨rfl, ((Below.refl _ _).alloc (Nat.le_refl _) _).alloc (by simp) _⟩

theorem walk_big (a : Option Addr) (n c : Nat) (sel : Int) (w : World) (hn : 1024 < n) :
    Calls Yba.prog 3 #[.slice a n c, .int .u64 sel] w fun e w' => e = .returned (.bool true) ∧ Below w.heap.size w w' := by
  have hn' : (1024 : Int) < (n : Int) := by omega
  go_enter Yba.func3, Yba.ntmps3
  go_wp2
  go_ret
  exact ⟨rfl, Below.refl _ _⟩
end Go.Proofs.Ybulkcgde.lawS4112CLeafIsChosen
