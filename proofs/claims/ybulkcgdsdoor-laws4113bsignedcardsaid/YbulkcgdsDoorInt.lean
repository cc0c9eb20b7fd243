/-
  The contract of 'appendInt' (9).
-/
import Derived.Test.YbulkcgdsDoorBig
namespace Go.Proofs.YbulkcgdsDoor
open Go.ChangeShapes Go.WideShapes Go.ChangeAt Go.RowKit
set_option linter.unusedVariables false

def Tab (w : World) : Prop := ∀ d, d < 20 → w.cell? ⟨0, d, none⟩ = some (.int .u64 ((10 ^ d : Nat) : Int))
theorem tab_below {base : Nat} {w w' : World} (h : Tab w) (hb : Below base w w') (h0 : 0 < base) : Tab w' := fun d hd => (hb.cell (p := ⟨0, d, none⟩) h0).trans (h d hd)

theorem append_tab (base g n cap u : Nat) (cur : Array Value) (w : World) (hu : u < 18446744073709551616) (hn : n ≤ 2000) (hb : base ≤ g) (hbs : base ≤ w.heap.size)
    (hg : w.heap[g]? = some (.cells cur 5 (0, 0))) (hnc : n ≤ cap) (hcs : cur.size = cap) (hm : cap ≤ maxLen) (ht : Tab w) (x : Int) (hx : x = (u : Int)) :
    Calls Ybad.prog 6 #[.slice (some ⟨g, 0, none⟩) n cap, .int .u64 x] w fun e w' => ∃ v', e = .returned v' ∧ w'.ownsRow base 5 1 v' (n + nd u) (cur.toList.take n ++ bytes (dec u)) ∧ Below base w w' := by
  rw [hx]
  exact append_any base g n cap u cur w hu hn hb hbs hg hnc hcs hm ht

/-- A number that is not negative. -/
theorem int_pos (base g n cap u : Nat) (cur : Array Value) (w : World) (hu : u < 9223372036854775808) (hn : n ≤ 1999) (hb : base ≤ g) (hbs : base ≤ w.heap.size)
    (hg : Hid (w.heap[g]? = some (.cells cur 5 (0, 0)))) (hnc : n ≤ cap) (hcs : Hid (cur.size = cap)) (hm : cap ≤ maxLen) (ht : Hid (Tab w)) :
    Calls Ybad.prog 9 #[.slice (some ⟨g, 0, none⟩) n cap, .int .i64 (u : Int)] w fun e w' => ∃ v', e = .returned v' ∧ w'.ownsRow base 5 1 v' (n + nd u) (cur.toList.take n ++ bytes (dec u)) ∧ Below base w w' := by
  have h0 : ¬ (u : Int) < 0 := by omega
  have hu' : (u : Int) < 9223372036854775808 := by omega
  go_enter Ybad.func9, Ybad.ntmps9
  go_wp2_with fail
  refine (append_tab base g n cap u cur _ (by omega) (by omega) hb hbs hg.out hnc hcs.out hm ht.out _ ?_).mono ?_
  · omega
  rintro e w' ⟨v', rfl, h1, h2⟩
  go_wp2
  go_ret
  exact ⟨_, rfl, h1, h2⟩

set_option maxRecDepth 100000 in
/-- A negative number: '-', then its magnitude. -/
theorem int_neg (base g n cap m : Nat) (x : Int) (cur : Array Value) (w : World) (hx : x = -(m : Int)) (hm1 : 1 ≤ m) (hm2 : m ≤ 9223372036854775808) (hn : n ≤ 1999) (hb0 : 0 < base) (hb : base ≤ g) (hbs : base ≤ w.heap.size)
    (hg : Hid (w.heap[g]? = some (.cells cur 5 (0, 0)))) (hnc : n ≤ cap) (hcs : Hid (cur.size = cap)) (hm : cap ≤ maxLen) (ht : Hid (Tab w)) :
    Calls Ybad.prog 9 #[.slice (some ⟨g, 0, none⟩) n cap, .int .i64 x] w fun e w' => ∃ v', e = .returned v' ∧ w'.ownsRow base 5 1 v' (n + 1 + nd m) (cur.toList.take n ++ [.int .u8 45] ++ bytes (dec m)) ∧ Below base w w' := by
  obtain ⟨i0, hi, hz0, hz1, hz2⟩ := info_parts info5
  have hx0 : x < 0 := by omega
  have HX : Hid (x = -(m : Int)) := hx
  have hxl : -9223372036854775808 ≤ x := by omega
  have HO : Hid (w.ownsRow base 5 1 (.slice (some ⟨g, 0, none⟩) n cap) n (cur.toList.take n)) := (⟨by have := hcs.out; simp; omega, .inr ⟨g, cap, cur, rfl, hb, hg.out, hnc, hm, by have := hcs.out; omega, by rw [Nat.mul_one]⟩⟩ : w.ownsRow base 5 1 (.slice (some ⟨g, 0, none⟩) n cap) n (cur.toList.take n))
  clear hx
  go_enter Ybad.func9, Ybad.ntmps9
  go_wp2_with (at_builtin; refine wpList_append_own _ rfl (.tmp 7) (.tmp 8) 22 rfl base 5 i0 (.int .u8 0) 1 1 Ybad.underlying22 hi hz0 hz1 hz2 rfl (by decide) (.slice (some ⟨g, 0, none⟩) n cap) n (cur.toList.take n) rfl (HO.out.alloc _) ⟨w.heap.size, 0, none⟩ 1 1 [.int .u8 45] rfl rfl (cell_one_new _ _ _) ?_ ?_ ?_ ?_ ?_)
  · intro u hu; simp at hu; subst hu; rfl
  · unfold maxLen; omega
  · omega
  · simp; omega
  intro v1 w1 hown1 hgrow1 _
  have hB1 : Below base w w1 := below_grown ((Below.refl base w).alloc hbs _) (HO.out.alloc _) hgrow1 (by simp; omega)
  obtain ⟨g1, cap1, cur1, hv1, k1, k2, k3, k4, k5, k6⟩ : ∃ g1 cap1 cur1, v1 = .slice (some ⟨g1, 0, none⟩) (n + 1) cap1 ∧ base ≤ g1 ∧ w1.heap[g1]? = some (.cells cur1 5 (0, 0)) ∧ n + 1 ≤ cap1 ∧ cap1 ≤ maxLen ∧ cur1.size = cap1 ∧ cur1.toList.take (n + 1) = cur.toList.take n ++ [.int .u8 45] := by
    rcases hown1.2 with ⟨_, h⟩ | ⟨g1, cap1, cur1, a1, a2, a3, a4, a5, a6, a7⟩
    · omega
    · exact ⟨g1, cap1, cur1, a1, a2, a3, a4, a5, by omega, by rw [Nat.mul_one] at a7; exact a7⟩
  rw [hv1]
  have HB1 : Hid (Below base w w1) := hB1
  have hsz : base ≤ w1.heap.size := by have := hB1.size; omega
  have K2 : Hid (w1.heap[g1]? = some (.cells cur1 5 (0, 0))) := k2
  have K6 : Hid (cur1.toList.take (n + 1) = cur.toList.take n ++ [.int .u8 45]) := k6
  have K5 : Hid (cur1.size = cap1) := k5
  have HT1 : Hid (Tab w1) := tab_below ht.out hB1 hb0
  clear hown1 hgrow1 hB1 k2 k6 k5 hv1
  go_wp2_with fail
  refine (append_tab base g1 (n + 1) cap1 m cur1 _ (by omega) (by omega) k1 hsz K2.out k3 K5.out k4 HT1.out _ ?_).mono ?_
  · rw [HX.out, IntKind.wrap_u64]
    unfold wrap64
    omega
  rintro e w' ⟨v', rfl, h1, h2⟩
  go_wp2
  go_ret
  refine ⟨_, rfl, ?_, HB1.out.trans h2⟩
  rw [K6.out] at h1
  exact h1
end Go.Proofs.YbulkcgdsDoor
