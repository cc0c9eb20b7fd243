/-
  'appendUint' (6) below 100.
-/
import Derived.Test.YbulkcgdsDoorTable
import Derived.Deep.RegionLaw
namespace Go.Proofs.YbulkcgdsDoor
open Go.ChangeShapes Go.WideShapes Go.ChangeAt Go.RowKit
set_option linter.unusedVariables false

/-- append onto a row of the call's own, as one step of a region that draws. -/
theorem step_append_own {P : Program} {ops : Array Oper} {o : Oper} {a : Act} {w : World} {K : Act → World → Prop} {Q : Exit → Act → World → Prop} {E : Prop} (hgd : o.guard = none) (s x : Operand) (t : TypeId)
    (ho : o.op = .call { callee := .builtin .append, args := #[s, x], argTypes := #[t, t] })
    (base : Nat) (e : TypeId) (i : TypeInfo) (z : Value) (size bytes : Nat) (ht : P.underlying t = some (.slice e)) (hi : P.info? e = some i) (hz : i.zero = some z)
    (hsize : i.size = size) (hby : i.bytes = bytes) (hzs : z.cells.size = size) (hsz : 0 < size)
    (v : Value) (n : Nat) (xs : List Value) (hs : a.eval s = v) (hown : w.ownsRow base e size v n xs)
    (ad : Addr) (m c : Nat) (news : List Value) (hx : a.eval x = .slice (some ad) m c) (hl : news.length = m * size) (hnews : ∀ j u, news[j]? = some u → w.cell? (ad.add j) = some u) (h1 : ∀ u ∈ news, u.oneCell' = true)
    (h63 : n + m ≤ maxLen) (hbytes : (n + m) * bytes ≤ 140737488355328) (hbase : base ≤ w.heap.size)
    (h : ∀ v' w', w'.ownsRow base e size v' (n + m) (xs ++ news) → w.grownBy w' v.ownBlock → K (a.put o.dst v') w') :
    if Region.wanted o (yielded ops a.tmps) = true then Oper.wp P o a w K Q else E := by
  have hw : Region.wanted o (yielded ops a.tmps) = true := by simp [Region.wanted, hgd]
  rw [if_pos hw]
  exact wp_append_own w s x t ho base e i z size bytes ht hi hz hsize hby hzs hsz v n xs hs hown ad m c news hx hl hnews h1 h63 hbytes hbase fun v' w' h2 h3 _ => h v' w' h2 h3

theorem nd_small1 {u : Nat} (h : u < 10) : nd u = 1 := by
  rcases Nat.eq_zero_or_pos u with e | e
  · subst e; rfl
  · exact has_one (nd_has e (by have : (10 : Nat) ≤ 10 ^ 20 := by decide
                                omega)) h
theorem nd_small2 {u : Nat} (h1 : 10 ≤ u) (h : u < 100) : nd u = 2 :=
  has_two (nd_has (by omega) (by have : (100 : Nat) ≤ 10 ^ 20 := by decide
                                 omega)) h1 h
theorem dec_small1 {u : Nat} (h : u < 10) : bytes (dec u) = [.int .u8 (48 + (u : Int))] := by
  unfold dec
  rw [nd_small1 h, digs_one]
  simp only [bytes, List.map_cons, List.map_nil, dig_val]
  rw [show (u : Int) % 10 = u by omega]
theorem dig_val' (n : Nat) (h : n < 10) : ((UInt8.ofNat (48 + n % 10)).toNat : Int) = 48 + (n : Int) := by
  rw [dig_val]; omega
theorem dec_small2 {u : Nat} (h1 : 10 ≤ u) (h : u < 100) : bytes (dec u) = [.int .u8 (48 + (u : Int) / 10), .int .u8 (48 + (u : Int) % 10)] := by
  unfold dec
  rw [nd_small2 h1 h, digs_two]
  simp only [bytes, List.map_cons, List.map_nil, dig_val]
  rw [show ((u / 10 : Nat) : Int) % 10 = (u : Int) / 10 by omega]

theorem below_grown {base : Nat} {w w1 w' : World} {v : Value} {n : Nat} {xs : List Value} (h : Below base w w1) (hown : w1.ownsRow base 5 1 v n xs) (hg : w1.grownBy w' v.ownBlock) (hb : base ≤ w1.heap.size) : Below base w w' :=
  h.grown hg hb (fun k hk => (hown.lt k hk).1)

set_option maxRecDepth 100000 in
theorem append_1 (base n u : Nat) (v : Value) (xs : List Value) (w : World) (hu : u < 10) (hn : n ≤ 2000) (hb : base ≤ w.heap.size) (hown : w.ownsRow base 5 1 v n xs) :
    Calls Ybad.prog 6 #[v, .int .u64 u] w fun e w' => ∃ v', e = .returned v' ∧ w'.ownsRow base 5 1 v' (n + nd u) (xs ++ bytes (dec u)) ∧ Below base w w' := by
  obtain ⟨i0, hi, hz0, hz1, hz2⟩ := info_parts info5
  have hu' : (u : Int) < 10 := by omega
  have HO : Hid (w.ownsRow base 5 1 v n xs) := hown
  clear hown
  go_enter Ybad.func6, Ybad.ntmps6
  go_wp2_with (at_builtin; refine wpList_append_own _ rfl (.tmp 11) (.tmp 15) 22 rfl base 5 i0 (.int .u8 0) 1 1 Ybad.underlying22 hi hz0 hz1 hz2 rfl (by decide) v n xs rfl (HO.out.alloc _) ⟨w.heap.size, 0, none⟩ 1 1 [.int .u8 (48 + (u : Int))] rfl rfl (cell_one_new _ _ _) ?_ ?_ ?_ ?_ ?_)
  · intro u hu; simp at hu; subst hu; rfl
  · unfold maxLen; omega
  · omega
  · simp; omega
  intro v' w1 hown' hgrow _
  have HB : Hid (Below base w w1) := below_grown ((Below.refl base w).alloc hb _) (HO.out.alloc _) hgrow (by simp; omega)
  have HO' : Hid (w1.ownsRow base 5 1 v' (n + 1) (xs ++ [.int .u8 (48 + (u : Int))])) := hown'
  clear hown' hgrow
  go_wp2
  go_ret
  refine ⟨_, rfl, ?_, HB.out⟩
  rw [nd_small1 hu, dec_small1 hu]
  exact HO'.out

theorem base_alloc {base : Nat} {w : World} (hb : base ≤ w.heap.size) (o : Obj) : base ≤ (w.alloc o).drew.heap.size := by
  show base ≤ (w.alloc o).heap.size
  simp; omega
theorem two_one (a b : Int) : ∀ u ∈ [Value.int .u8 a, Value.int .u8 b], u.oneCell' = true := by
  intro u hu
  simp only [List.mem_cons, List.not_mem_nil, or_false] at hu
  rcases hu with rfl | rfl <;> rfl

set_option maxRecDepth 100000 in
theorem append_2 (base n u : Nat) (v : Value) (xs : List Value) (w : World) (h10 : 10 ≤ u) (hu : u < 100) (hn : n ≤ 2000) (hb : base ≤ w.heap.size) (hown : w.ownsRow base 5 1 v n xs) :
    Calls Ybad.prog 6 #[v, .int .u64 u] w fun e w' => ∃ v', e = .returned v' ∧ w'.ownsRow base 5 1 v' (n + nd u) (xs ++ bytes (dec u)) ∧ Below base w w' := by
  obtain ⟨i0, hi, hz0, hz1, hz2⟩ := info_parts info5
  have h1' : (10 : Int) ≤ (u : Int) := by omega
  have h2' : (u : Int) < 100 := by omega
  have e1 : IntKind.u64.wrap (2 * (u : Int)) = 2 * (u : Int) := by rw [IntKind.wrap_u64]; omega
  have e2 : IntKind.u64.wrap (2 * (u : Int) + 1) = 2 * (u : Int) + 1 := by rw [IntKind.wrap_u64]; omega
  have x0 := fun w => idx0 (2 * (u : Int)) u hu rfl w
  have x1 := fun w => idx1 (2 * (u : Int) + 1) u hu rfl w
  have HO : Hid (w.ownsRow base 5 1 v n xs) := hown
  clear hown
  go_enter Ybad.func6, Ybad.ntmps6
  go_wp2
  go_region_law (refine step_append_own rfl (.tmp 20) (.tmp 28) 22 rfl base 5 i0 (.int .u8 0) 1 1 Ybad.underlying22 hi hz0 hz1 hz2 rfl (by decide) v n xs rfl (HO.out.alloc _).drew ⟨w.heap.size, 0, none⟩ 2 2 [.int .u8 (48 + (u : Int) / 10), .int .u8 (48 + (u : Int) % 10)] rfl rfl (cell_two_new w _ _ 5) (two_one _ _) (by unfold maxLen; omega) (by omega) (base_alloc hb _) ?_; intro v' w1 hown' hgrow)
  all_goals
    have HB : Hid (Below base w w1) := below_grown ((Below.refl base w).alloc hb _).drew (HO.out.alloc _).drew hgrow (base_alloc hb _)
    have HO' : Hid (w1.ownsRow base 5 1 v' (n + 2) (xs ++ [.int .u8 (48 + (u : Int) / 10), .int .u8 (48 + (u : Int) % 10)])) := hown'
    clear hown' hgrow
    go_wp2
    go_ret
    refine ⟨_, rfl, ?_, HB.out⟩
    rw [nd_small2 h10 hu, dec_small2 h10 hu]
    exact HO'.out
end Go.Proofs.YbulkcgdsDoor
