/-
  'appendUint' (6) from 100 on.
-/
import Derived.Test.YbulkcgdsDoorInv
import Derived.Test.YbulkcgdsDoorLen
import Derived.RegionTactic
namespace Go.Proofs.YbulkcgdsDoor
open Go.ChangeShapes Go.WideShapes Go.ChangeAt Go.RowKit
set_option linter.unusedVariables false

theorem len64 (u L : Nat) (hu : u < 18446744073709551616) (hL : L = Lib.bitLen u) (w : World) : Calls Ybad.prog 10 #[.int .u64 (u : Int)] w fun e w' => e = .returned (.int .i64 (L : Int)) ∧ w' = w := by
  have := bits_Len64 (u : Int) w (by omega) (by omega)
  rw [Int.toNat_natCast, ← hL] at this
  exact this

theorem grow_at (x : Int) (base g n cap D : Nat) (cur : Array Value) (w : World) (hx : x = (D : Int)) (hb : base ≤ g) (hbs : base ≤ w.heap.size) (hg : w.heap[g]? = some (.cells cur 5 (0, 0))) (hn : n ≤ cap) (hc : cur.size = cap) (hm : cap ≤ maxLen) (hn2 : n ≤ 2001) (hD : D ≤ 20) :
    Calls Ybad.prog 11 #[.slice (some ⟨g, 0, none⟩) n cap, .int .i64 x] w fun e w' => ∃ g' cap' ys, e = .returned (.slice (some ⟨g', 0, none⟩) n cap') ∧ n + D ≤ cap' ∧ cap' ≤ maxLen ∧
      w'.ownsRow base 5 1 (.slice (some ⟨g', 0, none⟩) (n + D) cap') (n + D) ys ∧ ys.take n = cur.toList.take n ∧ Below base w w' ∧ base ≤ g' := by
  rw [hx]
  refine (grow_any base g n cap D cur w hb hbs hg hn hc hm hn2 hD).mono ?_
  rintro e w' ⟨g', cap', cur', rfl, h1, h2, h3, h4, h5, h6, h7⟩
  refine ⟨g', cap', cur'.toList.take (n + D), rfl, h4, h5, ⟨by simp; omega, .inr ⟨g', cap', cur', rfl, h1, h2, h4, h5, by omega, by rw [Nat.mul_one]⟩⟩, ?_, h7, h1⟩
  rw [List.take_take, Nat.min_eq_left (by omega)]
  exact h6

set_option maxRecDepth 100000 in
set_option maxHeartbeats 1000000 in
theorem append_3a (base g n cap u L d P : Nat) (cur : Array Value) (w : World) (h100 : 100 ≤ u) (hu : u < 18446744073709551616) (hn : n ≤ 2000) (hb : base ≤ g) (hbs : base ≤ w.heap.size)
    (hg : Hid (w.heap[g]? = some (.cells cur 5 (0, 0)))) (hnc : n ≤ cap) (hcs : Hid (cur.size = cap)) (hm : cap ≤ maxLen)
    (hL : Hid (L = Lib.bitLen u)) (hL1 : 1 ≤ L) (hL2 : L ≤ 64) (hdN : L * 1233 / 4096 = d) (hdI : (L : Int) * 1233 / 4096 = (d : Int)) (hd20 : d < 20)
    (ht : w.cell? ⟨0, d, none⟩ = some (.int .u64 (P : Int))) (hP : P ≤ u) (hD : Hid (Has (d + 1) u)) (hnd : Hid (nd u = d + 1)) :
    Calls Ybad.prog 6 #[.slice (some ⟨g, 0, none⟩) n cap, .int .u64 u] w fun e w' => ∃ v', e = .returned v' ∧ w'.ownsRow base 5 1 v' (n + nd u) (cur.toList.take n ++ bytes (dec u)) ∧ Below base w w' := by
  have h1' : (100 : Int) ≤ (u : Int) := by omega
  have hL1' : (1 : Int) ≤ (L : Int) := by omega
  have hL2' : (L : Int) ≤ 64 := by omega
  have hP' : (P : Int) ≤ (u : Int) := by omega
  have hd20' : (d : Int) < 20 := by omega
  have HM : Hid (cap ≤ maxLen) := hm
  unfold maxLen at hm
  go_enter Ybad.func6, Ybad.ntmps6
  go_wp2_with (go_at_call 10; refine (len64 u L hu hL.out _).mono ?_; rintro e w' ⟨rfl, rfl⟩)
  refine (grow_at _ base g n cap (d + 1) cur _ (by omega) hb hbs hg.out hnc hcs.out HM.out (by omega) (by omega)).mono ?_
  rintro e w1 ⟨g', cap', ys0, rfl, hc1, hc2, hown, hys, hbel, hbg⟩
  have HI : Hid (Inv base w' g' cap' n (d + 1) (cur.toList.take n) u 0 (n + (d + 1)) ys0 w1) := ⟨hbel, hown, hys, by rw [List.drop_of_length_le (by have := hown.1; omega)]; rfl, by omega, by omega, hbg⟩
  have hcI : (n : Int) + ((d : Int) + 1) ≤ (cap' : Int) := by omega
  have hcI2 : (cap' : Int) ≤ 9223372036854775807 := by unfold maxLen at hc2; omega
  clear hown hys hbel hc2
  go_wp2_with fail
  go_loopw [1, 6, 7] (fun x i _ wr => ∃ t j U : Nat, ∃ ys : List Value, x = .int .u64 (U : Int) ∧ i = .int .i64 (j : Int) ∧ Hid (U = u / 10 ^ (2 * t)) ∧ Hid (Inv base w' g' cap' n (d + 1) (cur.toList.take n) u t j ys wr)) (fun x _ _ _ => (intOf x).toNat)
  case atStart => exact ⟨0, n + (d + 1), u, ys0, rfl, by go_num, by show u = u / 10 ^ (2 * 0); simp, HI⟩
  case round =>
    obtain ⟨t, j, U, ys, rfl, rfl, hU, hI⟩ := hrel
    have hUle : U ≤ u := by rw [hU.out]; exact Nat.div_le_self _ _
    have hjs : j + 2 * t = n + (d + 1) := hI.out.2.2.2.2.1
    have hts : 2 * t < d + 1 := hI.out.2.2.2.2.2.1
    have hhas : Hid (Has (d + 1 - 2 * t) U) := (hU.out ▸ has_step hD.out hts : Has (d + 1 - 2 * t) U)
    by_cases hU100 : 100 ≤ U
    · have h3 : 3 ≤ d + 1 - 2 * t := has_big hhas.out hU100
      obtain ⟨j, rfl⟩ : ∃ j', j = j' + 2 := ⟨j - 2, by omega⟩
      obtain ⟨⟨v1, c1⟩, f1⟩ := inv_cell hI.out j (by omega)
      obtain ⟨⟨v2, c2⟩, f2⟩ := inv_cell hI.out (j + 1) (by omega)
      have hU100' : (100 : Int) ≤ (U : Int) := by omega
      have hUI : (U : Int) < 18446744073709551616 := by omega
      have hjI : (j : Int) + 2 ≤ (n : Int) + ((d : Int) + 1) := by omega
      obtain ⟨a, ha⟩ : ∃ a : Int, a = 48 + ((U / 10 : Nat) : Int) % 10 := ⟨_, rfl⟩
      obtain ⟨b, hb'⟩ : ∃ b : Int, b = 48 + (U : Int) % 10 := ⟨_, rfl⟩
      have x0 : ∀ w, (Instr.index 9 (.string tabD) (.int .u64 ((U : Int) % 100 * 2))).run Ybad.prog w = .ok (.int .u8 a) w := fun w => by
        rw [ha, show (48 + ((U / 10 : Nat) : Int) % 10 : Int) = 48 + ((U % 100 : Nat) : Int) / 10 by omega]
        exact idx0 _ (U % 100) (Nat.mod_lt _ (by decide)) (by omega) w
      have x1 : ∀ w, (Instr.index 9 (.string tabD) (.int .u64 ((U : Int) % 100 * 2 + 1))).run Ybad.prog w = .ok (.int .u8 b) w := fun w => by
        rw [hb', show (48 + (U : Int) % 10 : Int) = 48 + ((U % 100 : Nat) : Int) % 10 by omega]
        exact idx1 _ (U % 100) (Nat.mod_lt _ (by decide)) (by omega) w
      have e2 : IntKind.u64.wrap ((U : Int) % 100 * 2 + 1) = (U : Int) % 100 * 2 + 1 := by rw [IntKind.wrap_u64]; omega
      have e3 : IntKind.i64.wrap ((j : Int) + 1) = (j : Int) + 1 := by rw [IntKind.wrap_i64]; omega
      have HA : Hid (a = 48 + ((U / 10 : Nat) : Int) % 10) := ha
      have HB : Hid (b = 48 + (U : Int) % 10) := hb'
      clear ha hb'
      go_wp2
      go_region
      go_wp2
      go_roundw
      case rel =>
        obtain ⟨ys', hI'⟩ := inv_step a b hI.out hD.out hU.out hU100 HA.out HB.out 1 rfl
        refine ⟨t + 1, j, U / 100, ys', by go_num, rfl, ?_, hI'⟩
        show U / 100 = u / 10 ^ (2 * (t + 1))
        rw [show 2 * (t + 1) = 2 * t + 2 by omega, Nat.pow_add, ← Nat.div_div_eq_div_mul, ← hU.out]
      case measure => simp [intOf]; omega
    · have hUlt : U < 100 := by omega
      have hUlt' : (U : Int) < 100 := by omega
      by_cases hU10 : 10 ≤ U
      · have h2 : d + 1 - 2 * t = 2 := has_two hhas.out hU10 hUlt
        obtain ⟨j, rfl⟩ : ∃ j', j = j' + 2 := ⟨j - 2, by omega⟩
        obtain ⟨⟨v1, c1⟩, f1⟩ := inv_cell hI.out j (by omega)
        obtain ⟨⟨v2, c2⟩, f2⟩ := inv_cell hI.out (j + 1) (by omega)
        have hU10' : (10 : Int) ≤ (U : Int) := by omega
        have hjI : (j : Int) + 2 ≤ (n : Int) + ((d : Int) + 1) := by omega
        obtain ⟨a, ha⟩ : ∃ a : Int, a = 48 + ((U / 10 : Nat) : Int) % 10 := ⟨_, rfl⟩
        obtain ⟨b, hb'⟩ : ∃ b : Int, b = 48 + (U : Int) % 10 := ⟨_, rfl⟩
        have x0 : ∀ w, (Instr.index 9 (.string tabD) (.int .u64 ((U : Int) * 2))).run Ybad.prog w = .ok (.int .u8 a) w := fun w => by
          rw [ha, show (48 + ((U / 10 : Nat) : Int) % 10 : Int) = 48 + (U : Int) / 10 by omega]
          exact idx0 _ U hUlt (by omega) w
        have x1 : ∀ w, (Instr.index 9 (.string tabD) (.int .u64 ((U : Int) * 2 + 1))).run Ybad.prog w = .ok (.int .u8 b) w := fun w => by
          rw [hb']
          exact idx1 _ U hUlt (by omega) w
        have e1 : IntKind.u64.wrap ((U : Int) * 2) = (U : Int) * 2 := by rw [IntKind.wrap_u64]; omega
        have e2 : IntKind.u64.wrap ((U : Int) * 2 + 1) = (U : Int) * 2 + 1 := by rw [IntKind.wrap_u64]; omega
        have HA : Hid (a = 48 + ((U / 10 : Nat) : Int) % 10) := ha
        have HB : Hid (b = 48 + (U : Int) % 10) := hb'
        clear ha hb' h2
        go_wp2
        go_region
        go_wp2
        go_ret
        obtain ⟨o1, o2⟩ := inv_end2 a b hI.out hD.out hnd.out hU.out hU10 hUlt HA.out HB.out 1 rfl
        exact ⟨_, rfl, o1, o2⟩
      · have h1 : d + 1 - 2 * t = 1 := has_one hhas.out (by omega)
        obtain ⟨j, rfl⟩ : ∃ j', j = j' + 1 := ⟨j - 1, by omega⟩
        obtain ⟨⟨v1, c1⟩, f1⟩ := inv_cell hI.out j (by omega)
        have hU10' : (U : Int) < 10 := by omega
        have hjI : (j : Int) + 1 ≤ (n : Int) + ((d : Int) + 1) := by omega
        clear h1
        go_wp2
        go_ret
        obtain ⟨o1, o2⟩ := inv_end1 (48 + (U : Int)) hI.out hD.out hnd.out hU.out (by omega) rfl rfl
        exact ⟨_, rfl, o1, o2⟩
set_option maxRecDepth 100000 in
set_option maxHeartbeats 1000000 in
theorem append_3b (base g n cap u L d P : Nat) (cur : Array Value) (w : World) (h100 : 100 ≤ u) (hu : u < 18446744073709551616) (hn : n ≤ 2000) (hb : base ≤ g) (hbs : base ≤ w.heap.size)
    (hg : Hid (w.heap[g]? = some (.cells cur 5 (0, 0)))) (hnc : n ≤ cap) (hcs : Hid (cur.size = cap)) (hm : cap ≤ maxLen)
    (hL : Hid (L = Lib.bitLen u)) (hL1 : 1 ≤ L) (hL2 : L ≤ 64) (hdN : L * 1233 / 4096 = d) (hdI : (L : Int) * 1233 / 4096 = (d : Int)) (hd20 : d < 20)
    (ht : w.cell? ⟨0, d, none⟩ = some (.int .u64 (P : Int))) (hP : u < P) (hD : Hid (Has d u)) (hnd : Hid (nd u = d)) :
    Calls Ybad.prog 6 #[.slice (some ⟨g, 0, none⟩) n cap, .int .u64 u] w fun e w' => ∃ v', e = .returned v' ∧ w'.ownsRow base 5 1 v' (n + nd u) (cur.toList.take n ++ bytes (dec u)) ∧ Below base w w' := by
  have h1' : (100 : Int) ≤ (u : Int) := by omega
  have hL1' : (1 : Int) ≤ (L : Int) := by omega
  have hL2' : (L : Int) ≤ 64 := by omega
  have hP' : (u : Int) < (P : Int) := by omega
  have hd20' : (d : Int) < 20 := by omega
  have HM : Hid (cap ≤ maxLen) := hm
  have hd1 : 1 ≤ d := hD.out.1
  unfold maxLen at hm
  go_enter Ybad.func6, Ybad.ntmps6
  go_wp2_with (go_at_call 10; refine (len64 u L hu hL.out _).mono ?_; rintro e w' ⟨rfl, rfl⟩)
  refine (grow_at _ base g n cap d cur _ (by omega) hb hbs hg.out hnc hcs.out HM.out (by omega) (by omega)).mono ?_
  rintro e w1 ⟨g', cap', ys0, rfl, hc1, hc2, hown, hys, hbel, hbg⟩
  have HI : Hid (Inv base w' g' cap' n d (cur.toList.take n) u 0 (n + d) ys0 w1) := ⟨hbel, hown, hys, by rw [List.drop_of_length_le (by have := hown.1; omega)]; rfl, by omega, by omega, hbg⟩
  have hcI : (n : Int) + (d : Int) ≤ (cap' : Int) := by omega
  have hcI2 : (cap' : Int) ≤ 9223372036854775807 := by unfold maxLen at hc2; omega
  clear hown hys hbel hc2
  go_wp2_with fail
  go_loopw [1, 6, 7] (fun x i _ wr => ∃ t j U : Nat, ∃ ys : List Value, x = .int .u64 (U : Int) ∧ i = .int .i64 (j : Int) ∧ Hid (U = u / 10 ^ (2 * t)) ∧ Hid (Inv base w' g' cap' n d (cur.toList.take n) u t j ys wr)) (fun x _ _ _ => (intOf x).toNat)
  case atStart => exact ⟨0, n + d, u, ys0, rfl, by go_num, by show u = u / 10 ^ (2 * 0); simp, HI⟩
  case round =>
    obtain ⟨t, j, U, ys, rfl, rfl, hU, hI⟩ := hrel
    have hUle : U ≤ u := by rw [hU.out]; exact Nat.div_le_self _ _
    have hjs : j + 2 * t = n + d := hI.out.2.2.2.2.1
    have hts : 2 * t < d := hI.out.2.2.2.2.2.1
    have hhas : Hid (Has (d - 2 * t) U) := (hU.out ▸ has_step hD.out hts : Has (d - 2 * t) U)
    by_cases hU100 : 100 ≤ U
    · have h3 : 3 ≤ d - 2 * t := has_big hhas.out hU100
      obtain ⟨j, rfl⟩ : ∃ j', j = j' + 2 := ⟨j - 2, by omega⟩
      obtain ⟨⟨v1, c1⟩, f1⟩ := inv_cell hI.out j (by omega)
      obtain ⟨⟨v2, c2⟩, f2⟩ := inv_cell hI.out (j + 1) (by omega)
      have hU100' : (100 : Int) ≤ (U : Int) := by omega
      have hUI : (U : Int) < 18446744073709551616 := by omega
      have hjI : (j : Int) + 2 ≤ (n : Int) + (d : Int) := by omega
      obtain ⟨a, ha⟩ : ∃ a : Int, a = 48 + ((U / 10 : Nat) : Int) % 10 := ⟨_, rfl⟩
      obtain ⟨b, hb'⟩ : ∃ b : Int, b = 48 + (U : Int) % 10 := ⟨_, rfl⟩
      have x0 : ∀ w, (Instr.index 9 (.string tabD) (.int .u64 ((U : Int) % 100 * 2))).run Ybad.prog w = .ok (.int .u8 a) w := fun w => by
        rw [ha, show (48 + ((U / 10 : Nat) : Int) % 10 : Int) = 48 + ((U % 100 : Nat) : Int) / 10 by omega]
        exact idx0 _ (U % 100) (Nat.mod_lt _ (by decide)) (by omega) w
      have x1 : ∀ w, (Instr.index 9 (.string tabD) (.int .u64 ((U : Int) % 100 * 2 + 1))).run Ybad.prog w = .ok (.int .u8 b) w := fun w => by
        rw [hb', show (48 + (U : Int) % 10 : Int) = 48 + ((U % 100 : Nat) : Int) % 10 by omega]
        exact idx1 _ (U % 100) (Nat.mod_lt _ (by decide)) (by omega) w
      have e2 : IntKind.u64.wrap ((U : Int) % 100 * 2 + 1) = (U : Int) % 100 * 2 + 1 := by rw [IntKind.wrap_u64]; omega
      have e3 : IntKind.i64.wrap ((j : Int) + 1) = (j : Int) + 1 := by rw [IntKind.wrap_i64]; omega
      have HA : Hid (a = 48 + ((U / 10 : Nat) : Int) % 10) := ha
      have HB : Hid (b = 48 + (U : Int) % 10) := hb'
      clear ha hb'
      go_wp2
      go_region
      go_wp2
      go_roundw
      case rel =>
        obtain ⟨ys', hI'⟩ := inv_step a b hI.out hD.out hU.out hU100 HA.out HB.out 1 rfl
        refine ⟨t + 1, j, U / 100, ys', by go_num, rfl, ?_, hI'⟩
        show U / 100 = u / 10 ^ (2 * (t + 1))
        rw [show 2 * (t + 1) = 2 * t + 2 by omega, Nat.pow_add, ← Nat.div_div_eq_div_mul, ← hU.out]
      case measure => simp [intOf]; omega
    · have hUlt : U < 100 := by omega
      have hUlt' : (U : Int) < 100 := by omega
      by_cases hU10 : 10 ≤ U
      · have h2 : d - 2 * t = 2 := has_two hhas.out hU10 hUlt
        obtain ⟨j, rfl⟩ : ∃ j', j = j' + 2 := ⟨j - 2, by omega⟩
        obtain ⟨⟨v1, c1⟩, f1⟩ := inv_cell hI.out j (by omega)
        obtain ⟨⟨v2, c2⟩, f2⟩ := inv_cell hI.out (j + 1) (by omega)
        have hU10' : (10 : Int) ≤ (U : Int) := by omega
        have hjI : (j : Int) + 2 ≤ (n : Int) + (d : Int) := by omega
        obtain ⟨a, ha⟩ : ∃ a : Int, a = 48 + ((U / 10 : Nat) : Int) % 10 := ⟨_, rfl⟩
        obtain ⟨b, hb'⟩ : ∃ b : Int, b = 48 + (U : Int) % 10 := ⟨_, rfl⟩
        have x0 : ∀ w, (Instr.index 9 (.string tabD) (.int .u64 ((U : Int) * 2))).run Ybad.prog w = .ok (.int .u8 a) w := fun w => by
          rw [ha, show (48 + ((U / 10 : Nat) : Int) % 10 : Int) = 48 + (U : Int) / 10 by omega]
          exact idx0 _ U hUlt (by omega) w
        have x1 : ∀ w, (Instr.index 9 (.string tabD) (.int .u64 ((U : Int) * 2 + 1))).run Ybad.prog w = .ok (.int .u8 b) w := fun w => by
          rw [hb']
          exact idx1 _ U hUlt (by omega) w
        have e1 : IntKind.u64.wrap ((U : Int) * 2) = (U : Int) * 2 := by rw [IntKind.wrap_u64]; omega
        have e2 : IntKind.u64.wrap ((U : Int) * 2 + 1) = (U : Int) * 2 + 1 := by rw [IntKind.wrap_u64]; omega
        have HA : Hid (a = 48 + ((U / 10 : Nat) : Int) % 10) := ha
        have HB : Hid (b = 48 + (U : Int) % 10) := hb'
        clear ha hb' h2
        go_wp2
        go_region
        go_wp2
        go_ret
        obtain ⟨o1, o2⟩ := inv_end2 a b hI.out hD.out hnd.out hU.out hU10 hUlt HA.out HB.out 1 rfl
        exact ⟨_, rfl, o1, o2⟩
      · have h1 : d - 2 * t = 1 := has_one hhas.out (by omega)
        obtain ⟨j, rfl⟩ : ∃ j', j = j' + 1 := ⟨j - 1, by omega⟩
        obtain ⟨⟨v1, c1⟩, f1⟩ := inv_cell hI.out j (by omega)
        have hU10' : (U : Int) < 10 := by omega
        have hjI : (j : Int) + 1 ≤ (n : Int) + (d : Int) := by omega
        clear h1
        go_wp2
        go_ret
        obtain ⟨o1, o2⟩ := inv_end1 (48 + (U : Int)) hI.out hD.out hnd.out hU.out (by omega) rfl rfl
        exact ⟨_, rfl, o1, o2⟩

/-- 'appendUint': the decimal digits of u behind what the row holds. 'powersOfTen' lies at block 0. -/
theorem append_any (base g n cap u : Nat) (cur : Array Value) (w : World) (hu : u < 18446744073709551616) (hn : n ≤ 2000) (hb : base ≤ g) (hbs : base ≤ w.heap.size)
    (hg : w.heap[g]? = some (.cells cur 5 (0, 0))) (hnc : n ≤ cap) (hcs : cur.size = cap) (hm : cap ≤ maxLen)
    (ht : ∀ d, d < 20 → w.cell? ⟨0, d, none⟩ = some (.int .u64 ((10 ^ d : Nat) : Int))) :
    Calls Ybad.prog 6 #[.slice (some ⟨g, 0, none⟩) n cap, .int .u64 (u : Int)] w fun e w' => ∃ v', e = .returned v' ∧ w'.ownsRow base 5 1 v' (n + nd u) (cur.toList.take n ++ bytes (dec u)) ∧ Below base w w' := by
  have hown : w.ownsRow base 5 1 (.slice (some ⟨g, 0, none⟩) n cap) n (cur.toList.take n) := ⟨by simp; omega, .inr ⟨g, cap, cur, rfl, hb, hg, hnc, hm, by omega, by rw [Nat.mul_one]⟩⟩
  by_cases h10 : u < 10
  · exact append_1 base n u _ _ w h10 hn hbs hown
  by_cases h100 : u < 100
  · exact append_2 base n u _ _ w (by omega) h100 hn hbs hown
  have hu64 : u < 2 ^ 64 := hu
  obtain ⟨l1, l2, l3⟩ := bitLen_lo u (by omega) hu64
  obtain ⟨c1, c2, c3⟩ := count u (by omega) hu64
  have hnd := nd_has (u := u) (by omega) (by have : (2 : Nat) ^ 64 ≤ 10 ^ 20 := by decide
                                             omega)
  by_cases hP : 10 ^ (Lib.bitLen u * 1233 / 4096) ≤ u
  · exact append_3a base g n cap u (Lib.bitLen u) (Lib.bitLen u * 1233 / 4096) (10 ^ (Lib.bitLen u * 1233 / 4096)) cur w (by omega) hu hn hb hbs hg hnc hcs hm rfl l1 l2 rfl (by omega) c1 (ht _ c1) hP (c2 hP) (has_unique hnd (c2 hP))
  · exact append_3b base g n cap u (Lib.bitLen u) (Lib.bitLen u * 1233 / 4096) (10 ^ (Lib.bitLen u * 1233 / 4096)) cur w (by omega) hu hn hb hbs hg hnc hcs hm rfl l1 l2 rfl (by omega) c1 (ht _ c1) (by omega) (c3 (by omega)) (has_unique hnd (c3 (by omega)))
end Go.Proofs.YbulkcgdsDoor
