/-
  The walk of 'LawS4113BSigned' (5).
-/
import Derived.Test.YbulkcgdsDoorInt
import Derived.Test.YbulkcgdsDoorIs
import Derived.Laws.CopyOwn
namespace Go.Proofs.YbulkcgdsDoor
open Go.ChangeShapes Go.WideShapes Go.ChangeAt Go.RowKit
set_option linter.unusedVariables false

/-- What is known of the slice of bytes that came in: its first n cells are xs. -/
def Src (w : World) (a : Option Addr) (n : Nat) (z : Nat → Int) : Prop := n = 0 ∨ ∃ b off, a = some ⟨b, off, none⟩ ∧ b < w.heap.size ∧ ∀ i, i < n → w.cell? ⟨b, off + i, none⟩ = some (.int .u8 (z i))

def cells (z : Nat → Int) (n : Nat) : List Value := (List.range n).map fun i => Value.int .u8 (z i)
theorem cells_length (z : Nat → Int) (n : Nat) : (cells z n).length = n := by simp [cells]
theorem cells_get (z : Nat → Int) (n j : Nat) (v : Value) (h : (cells z n)[j]? = some v) : j < n ∧ v = .int .u8 (z j) := by
  have hj : j < n := by
    have := (List.getElem?_eq_some_iff.1 h).1
    rwa [cells_length] at this
  refine ⟨hj, ?_⟩
  simp [cells, hj] at h
  exact h.symm
theorem cells_one (z : Nat → Int) (n : Nat) : ∀ u ∈ cells z n, u.oneCell' = true := by
  intro u hu
  simp only [cells, List.mem_map] at hu
  obtain ⟨c, _, rfl⟩ := hu
  rfl

/-- 'zzs4113bis' on rows of the call's own. -/
theorem is_any (w : World) (a : Option Addr) (n c t N : Nat) (z : Nat → Int) (tl : List UInt8) (rb rc tb tc base1 base2 : Nat) (hN : N = n + t) (hn : n ≤ 1024) (ht : t ≤ 64) (hl : tl.length = t) (hs : Src w a n z)
    (hr : w.ownsRow base1 5 1 (.slice (some ⟨rb, 0, none⟩) N rc) N (cells z n ++ bytes tl)) (htl : w.ownsRow base2 5 1 (.slice (some ⟨tb, 0, none⟩) t tc) t (bytes tl)) :
    Calls Ybad.prog 7 #[.slice (some ⟨rb, 0, none⟩) N rc, .slice a n c, .slice (some ⟨tb, 0, none⟩) t tc] w fun e w' => e = .returned (.bool true) ∧ ∃ q, w' = w.drewN q := by
  subst hN
  have h1 : ∀ i, i < n → w.cell? ⟨rb, i, none⟩ = some (.int .u8 (z i)) := fun i hi => by
    rw [hr.cellAt i (by omega), List.getElem?_append_left (by rw [cells_length]; exact hi)]
    simp [cells, hi]
  have h2 : ∀ j, j < t → w.cell? ⟨rb, n + j, none⟩ = some (.int .u8 ((tl.getD j 0).toNat : Int)) := fun j hj => by
    rw [hr.cellAt (n + j) (by omega), List.getElem?_append_right (by rw [cells_length]; omega), cells_length, Nat.add_sub_cancel_left]
    simp [bytes, show j < tl.length by omega]
  have h3 : ∀ j, j < t → w.cell? ⟨tb, j, none⟩ = some (.int .u8 ((tl.getD j 0).toNat : Int)) := fun j hj => by
    rw [htl.cellAt j (by omega)]
    simp [bytes, show j < tl.length by omega]
  rcases hs with rfl | ⟨b, off, rfl, _, hc⟩
  · rw [Nat.zero_add]
    exact is_bare rb rc c tb tc t a (fun j => ((tl.getD j 0).toNat : Int)) w ht (show Hid _ from h2) (show Hid _ from h3)
  · by_cases h0 : n = 0
    · subst h0
      rw [Nat.zero_add]
      exact is_bare rb rc c tb tc t _ (fun j => ((tl.getD j 0).toNat : Int)) w ht (show Hid _ from h2) (show Hid _ from h3)
    · exact is_pre rb rc b off c tb tc n t z (fun j => ((tl.getD j 0).toNat : Int)) w (by omega) hn ht (show Hid _ from h1) (show Hid _ from hc) (show Hid _ from h2) (show Hid _ from h3)

theorem src_below {w w' : World} {a : Option Addr} {n : Nat} {z : Nat → Int} (h : Src w a n z) (hb : Below w.heap.size w w') : Src w' a n z := by
  rcases h with h | ⟨b, off, rfl, h1, h2⟩
  · exact .inl h
  · exact .inr ⟨b, off, rfl, by have := hb.size; omega, fun i hi => (hb.cell (p := ⟨b, off + i, none⟩) h1).trans (h2 i hi)⟩

/-- An owned row stands where nothing below its heap turns. -/
theorem own_below {w w' : World} {base : Nat} {v : Value} {n : Nat} {xs : List Value} (h : w.ownsRow base 5 1 v n xs) (hb : Below w.heap.size w w') : w'.ownsRow base 5 1 v n xs := by
  refine ⟨h.1, ?_⟩
  rcases h.2 with h2 | ⟨g, cap, cur, a1, a2, a3, a4⟩
  · exact .inl h2
  · refine .inr ⟨g, cap, cur, a1, a2, ?_, a4⟩
    have hg : g < w.heap.size := (Array.getElem?_eq_some_iff.1 a3).1
    rw [hb.block g hg]
    exact a3

theorem splice_all (L cs : List Value) (h : L.length = cs.length) : splice L 0 cs = cs := by simp [splice, h]

theorem make22 (n : Nat) (hn : n ≤ 1024) : ∃ cs : Array Value, cs.size = n ∧ ∀ w : World, (Instr.makeSlice 22 (.int .i64 n) (.int .i64 n)).run Ybad.prog w = .ok (.slice (some ⟨w.heap.size, 0, none⟩) n n) (w.alloc (.cells cs 5)) := by
  obtain ⟨i0, hi, hz0, hz1, hz2⟩ := info_parts info5
  refine ⟨madeCells (Value.int .u8 0).cells n, size_madeCells _ _, fun w => ?_⟩
  have := run_make (P := Ybad.prog) w 22 5 i0 (.int .u8 0) Ybad.underlying22 hi hz0 .i64 .i64 n n (by omega) (by omega) (by rw [hz2]; omega) (by omega)
  rw [hz1] at this
  simpa using this

theorem own_parts {w : World} {base : Nat} {v : Value} {n : Nat} {xs : List Value} (h : w.ownsRow base 5 1 v n xs) (h0 : 0 < n) : ∃ g cap, v = .slice (some ⟨g, 0, none⟩) n cap := by
  rcases h.2 with ⟨_, h2⟩ | ⟨g, cap, cur, a1, _⟩
  · omega
  · exact ⟨g, cap, a1⟩

theorem nd_le (u : Nat) (hu : u < 18446744073709551616) : 1 ≤ nd u ∧ nd u ≤ 20 := by
  rcases Nat.eq_zero_or_pos u with e | e
  · subst e; decide
  · have h := nd_has (u := u) e (by have : (2 : Nat) ^ 64 ≤ 10 ^ 20 := by decide
                                    omega)
    refine ⟨h.1, ?_⟩
    have := pow20 (u := u) (k := nd u - 1) (by omega) h.2.1
    omega

theorem digits_any (x : Int) (u : Nat) (hx : x = (u : Int)) (hu : u < 18446744073709551616) (w : World) :
    Calls Ybad.prog 8 #[.int .u64 x] w fun e w' => ∃ g cap, e = .returned (.slice (some ⟨g, 0, none⟩) (nd u) cap) ∧ w'.ownsRow w.heap.size 5 1 (.slice (some ⟨g, 0, none⟩) (nd u) cap) (nd u) (bytes (dec u)) ∧ Below w.heap.size w w' := by
  have h : Calls Ybad.prog 8 #[.int .u64 x] w fun e w' => ∃ v, e = .returned v ∧ w'.ownsRow w.heap.size 5 1 v (nd u) (bytes (dec u)) ∧ Below w.heap.size w w' := by
    rcases Nat.eq_zero_or_pos u with e | e
    · subst e; rw [hx]; exact digits_zero w
    · rw [hx]; exact digits_pos u e hu w
  refine h.mono ?_
  rintro e w' ⟨v, rfl, h1, h2⟩
  obtain ⟨g, cap, rfl⟩ := own_parts h1 (nd_le u hu).1
  exact ⟨g, cap, rfl, h1, h2⟩

theorem size5 : (Ybad.prog.info? 5).map (·.size) = some 1 := by kernel_rfl

set_option maxRecDepth 100000 in
theorem signed_pos (a : Option Addr) (n c u : Nat) (z : Nat → Int) (w : World) (hn : n ≤ 1024) (hu : Hid (u < 9223372036854775808)) (hs : Hid (Src w a n z)) (ht : Hid (Tab w)) (h0 : Hid (0 < w.heap.size)) :
    Calls Ybad.prog 5 #[.slice a n c, .int .i64 (u : Int)] w fun e w' => e = .returned (.bool true) ∧ Below w.heap.size w w' := by
  obtain ⟨i0, hi, hz0, hz1, hz2⟩ := info_parts info5
  have hnI : (n : Int) ≤ 1024 := by omega
  have huI : ¬ (u : Int) < 0 := by omega
  go_enter Ybad.func5, Ybad.ntmps5
  go_wp2_with (at_make; refine wpList_make_full _ rfl _ _ 22 rfl w.heap.size 5 i0 (.int .u8 0) 1 Ybad.underlying22 hi hz0 hz1 _ _ _ _ n rfl rfl rfl rfl ?_ ?_ (Nat.le_refl _) ?_)
  · omega
  · unfold maxLen; omega
  intro w1 hown hgrow
  obtain ⟨cur, k1, k2⟩ : ∃ cur : Array Value, w1.heap[w.heap.size]? = some (.cells cur.toList.toArray 5 (0, 0)) ∧ cur.toList.length = n := by
    rcases hown.2 with ⟨h, _⟩ | ⟨g1, cap1, cur1, a1, a2, a3, a4, a5, a6, a7⟩
    · cases h
    · cases a1
      exact ⟨cur1, by simpa using a3, by simpa using a6⟩
  have hB1 : Below w.heap.size w w1 := (Below.refl _ _).grown hgrow (Nat.le_refl _) (by intro k h; cases h)
  have HS1 : Hid (Src w1 a n z) := src_below hs.out hB1
  have K1 : Hid (w1.heap[w.heap.size]? = some (.cells cur.toList.toArray 5 (0, 0))) := k1
  have K2 : Hid (cur.toList.length = n) := k2
  have HB1 : Hid (Below w.heap.size w w1) := hB1
  clear hown hgrow k1 k2 hB1
  go_wp2_with (with_reducible show wpList _ _ _ ({ dst := some 16, op := _, type := _, pos := _, after := _, guard := _ } :: _) _ _; refine wpList_copy_splice rfl (.tmp 14) (.tmp 15) 22 22 rfl 5 Ybad.underlying22 size5 (some ⟨w.heap.size, 0, none⟩) a n n n c rfl rfl w.heap.size 0 cur.toList 5 K1.out (cells z n) ?_ ?_ ?_ (cells_one _ _) w.heap.size w HB1.out (Nat.le_refl _) ?_)
  · rw [cells_length]; simp
  · intro hp
    rw [cells_length] at hp
    rcases HS1.out with h | ⟨b, off, h1, h2, h3⟩
    · omega
    · refine ⟨_, h1, fun j v hv => ?_⟩
      obtain ⟨hj, rfl⟩ := cells_get z n j v hv
      rw [Go.WideShapes.add_plain]
      exact h3 j hj
  · rw [cells_length, K2.out]; omega
  intro w2 K3 hB2
  have K4 : Hid (w2.heap[w.heap.size]? = some (.cells (cells z n).toArray 5 (0, 0))) := by
    have := K3.out
    rw [splice_all _ _ (by rw [K2.out, cells_length])] at this
    exact this
  have HS2 : Hid (Src w2 a n z) := src_below hs.out hB2
  have HT2 : Hid (Tab w2) := tab_below ht.out hB2 h0.out
  have hsz2 : w.heap.size ≤ w2.heap.size := hB2.size
  have HB2 : Hid (Below w.heap.size w w2) := hB2
  clear K3 hB2 HS1 K1 K2 HB1
  go_wp2_with fail
  refine (int_pos w.heap.size w.heap.size n n u (cells z n).toArray _ hu.out (by omega) (Nat.le_refl _) hsz2 K4 (Nat.le_refl _) (show Hid _ from (by show (cells z n).toArray.size = n; rw [List.size_toArray, cells_length])) (by unfold maxLen; omega) HT2).mono ?_
  rintro e w3 ⟨v, rfl, hown, hB3⟩
  have hnd := nd_le u (by have := hu.out; omega)
  obtain ⟨rb, rc, hv⟩ := own_parts hown (by omega)
  rw [hv] at hown ⊢
  have hown' : w3.ownsRow w.heap.size 5 1 (.slice (some ⟨rb, 0, none⟩) (n + nd u) rc) (n + nd u) (cells z n ++ bytes (dec u)) := by
    have e : (cells z n).toArray.toList.take n = cells z n := List.take_of_length_le (by rw [List.toList_toArray, cells_length]; exact Nat.le_refl _)
    rw [e] at hown
    exact hown
  have HO : Hid (w3.ownsRow w.heap.size 5 1 (.slice (some ⟨rb, 0, none⟩) (n + nd u) rc) (n + nd u) (cells z n ++ bytes (dec u))) := hown'
  have HB3 : Hid (Below w.heap.size w w3) := HB2.out.trans hB3
  clear hown hown' hB3 hv
  go_wp2_with fail
  refine (digits_any _ u ?_ (by have := hu.out; omega) _).mono ?_
  · rw [IntKind.wrap_u64]
    have := hu.out
    omega
  rintro e w4 ⟨tb, tc, rfl, hot, hB4⟩
  have HB4 : Hid (Below w.heap.size w w4) := HB3.out.trans (hB4.mono HB3.out.size)
  have HS4 : Hid (Src w4 a n z) := src_below hs.out HB4.out
  have HR4 : Hid (w4.ownsRow w.heap.size 5 1 (.slice (some ⟨rb, 0, none⟩) (n + nd u) rc) (n + nd u) (cells z n ++ bytes (dec u))) := own_below HO.out hB4
  have HT4 : Hid (w4.ownsRow w3.heap.size 5 1 (.slice (some ⟨tb, 0, none⟩) (nd u) tc) (nd u) (bytes (dec u))) := hot
  clear hot hB4
  go_wp2_with fail
  refine (is_any _ a n c (nd u) (n + nd u) z (dec u) rb rc tb tc _ _ rfl hn (by omega) (digs_length _ _) HS4.out HR4.out HT4.out).mono ?_
  rintro e w5 ⟨rfl, q, rfl⟩
  go_wp2
  go_ret
  exact ⟨rfl, below_drewN HB4.out q⟩

set_option maxRecDepth 100000 in
theorem signed_neg (a : Option Addr) (n c m : Nat) (x : Int) (z : Nat → Int) (w : World) (hn : n ≤ 1024) (hx : Hid (x = -(m : Int))) (hm : Hid (1 ≤ m ∧ m ≤ 9223372036854775808)) (hx0 : x < 0) (hs : Hid (Src w a n z)) (ht : Hid (Tab w)) (h0 : Hid (0 < w.heap.size)) :
    Calls Ybad.prog 5 #[.slice a n c, .int .i64 x] w fun e w' => e = .returned (.bool true) ∧ Below w.heap.size w w' := by
  obtain ⟨i0, hi, hz0, hz1, hz2⟩ := info_parts info5
  have hnI : (n : Int) ≤ 1024 := by omega
  go_enter Ybad.func5, Ybad.ntmps5
  go_wp2_with (at_make; refine wpList_make_full _ rfl _ _ 22 rfl w.heap.size 5 i0 (.int .u8 0) 1 Ybad.underlying22 hi hz0 hz1 _ _ _ _ n rfl rfl rfl rfl ?_ ?_ (Nat.le_refl _) ?_)
  · first | omega | (rw [hz2]; omega)
  · unfold maxLen; omega
  intro w1 hown hgrow
  obtain ⟨cur, k1, k2⟩ : ∃ cur : Array Value, w1.heap[w.heap.size]? = some (.cells cur.toList.toArray 5 (0, 0)) ∧ cur.toList.length = n := by
    rcases hown.2 with ⟨h, _⟩ | ⟨g1, cap1, cur1, a1, a2, a3, a4, a5, a6, a7⟩
    · cases h
    · cases a1
      exact ⟨cur1, by simpa using a3, by simpa using a6⟩
  have hB1 : Below w.heap.size w w1 := (Below.refl _ _).grown hgrow (Nat.le_refl _) (by intro k h; cases h)
  have HS1 : Hid (Src w1 a n z) := src_below hs.out hB1
  have K1 : Hid (w1.heap[w.heap.size]? = some (.cells cur.toList.toArray 5 (0, 0))) := k1
  have K2 : Hid (cur.toList.length = n) := k2
  have HB1 : Hid (Below w.heap.size w w1) := hB1
  clear hown hgrow k1 k2 hB1
  go_wp2_with (with_reducible show wpList _ _ _ ({ dst := some 16, op := _, type := _, pos := _, after := _, guard := _ } :: _) _ _; refine wpList_copy_splice rfl (.tmp 14) (.tmp 15) 22 22 rfl 5 Ybad.underlying22 size5 (some ⟨w.heap.size, 0, none⟩) a n n n c rfl rfl w.heap.size 0 cur.toList 5 K1.out (cells z n) ?_ ?_ ?_ (cells_one _ _) w.heap.size w HB1.out (Nat.le_refl _) ?_)
  · rw [cells_length]; simp
  · intro hp
    rw [cells_length] at hp
    rcases HS1.out with h | ⟨b, off, h1, h2, h3⟩
    · omega
    · refine ⟨_, h1, fun j v hv => ?_⟩
      obtain ⟨hj, rfl⟩ := cells_get z n j v hv
      rw [Go.WideShapes.add_plain]
      exact h3 j hj
  · rw [cells_length, K2.out]; omega
  intro w2 K3 hB2
  have K4 : Hid (w2.heap[w.heap.size]? = some (.cells (cells z n).toArray 5 (0, 0))) := by
    have := K3.out
    rw [splice_all _ _ (by rw [K2.out, cells_length])] at this
    exact this
  have HS2 : Hid (Src w2 a n z) := src_below hs.out hB2
  have HT2 : Hid (Tab w2) := tab_below ht.out hB2 h0.out
  have hsz2 : w.heap.size ≤ w2.heap.size := hB2.size
  have HB2 : Hid (Below w.heap.size w w2) := hB2
  clear K3 hB2 HS1 K1 K2 HB1
  go_wp2_with fail
  refine (int_neg w.heap.size w.heap.size n n m x (cells z n).toArray _ hx.out hm.out.1 hm.out.2 (by omega) h0.out (Nat.le_refl _) hsz2 K4 (Nat.le_refl _) (show Hid _ from (by show (cells z n).toArray.size = n; rw [List.size_toArray, cells_length])) (by unfold maxLen; omega) HT2).mono ?_
  rintro e w3 ⟨v, rfl, hown, hB3⟩
  have hnd := nd_le m (by have := hm.out.2; omega)
  obtain ⟨rb, rc, hv⟩ := own_parts hown (by omega)
  rw [hv] at hown ⊢
  have hown' : w3.ownsRow w.heap.size 5 1 (.slice (some ⟨rb, 0, none⟩) (n + 1 + nd m) rc) (n + 1 + nd m) (cells z n ++ bytes (45 :: dec m)) := by
    have e : (cells z n).toArray.toList.take n = cells z n := List.take_of_length_le (by rw [List.toList_toArray, cells_length]; exact Nat.le_refl _)
    rw [e] at hown
    have e2 : cells z n ++ [Value.int .u8 45] ++ bytes (dec m) = cells z n ++ bytes (45 :: dec m) := by rw [List.append_assoc]; rfl
    rw [e2] at hown
    exact hown
  have HO : Hid (w3.ownsRow w.heap.size 5 1 (.slice (some ⟨rb, 0, none⟩) (n + 1 + nd m) rc) (n + 1 + nd m) (cells z n ++ bytes (45 :: dec m))) := hown'
  have HB3 : Hid (Below w.heap.size w w3) := HB2.out.trans hB3
  clear hown hown' hB3 hv
  go_wp2_with fail
  refine (digits_any _ m ?_ (by have := hm.out.2; omega) _).mono ?_
  · rw [IntKind.wrap_u64, IntKind.wrap_u64, hx.out]
    have := hm.out
    omega
  rintro e w4 ⟨tb, tc, rfl, hot, hB4⟩
  have h45 : (w3.alloc (.cells #[.int .u8 45] 5)).ownsRow w3.heap.size 5 1 (.slice (some ⟨w3.heap.size, 0, none⟩) 1 1) 1 [.int .u8 45] := World.ownsRow_lit w3 #[.int .u8 45] 1 (Nat.le_refl _) (by decide) rfl
  have HV : Hid (w4.ownsRow w3.heap.size 5 1 (.slice (some ⟨w3.heap.size, 0, none⟩) 1 1) 1 [.int .u8 45]) := own_below h45 hB4
  have hb34 : Below w3.heap.size w3 w4 := ((Below.refl _ _).alloc (Nat.le_refl _) _).trans (hB4.mono (by simp))
  have HB34 : Hid (Below w3.heap.size w3 w4) := hb34
  have HD4 : Hid (w4.ownsRow (w3.alloc (.cells #[.int .u8 45] 5)).heap.size 5 1 (.slice (some ⟨tb, 0, none⟩) (nd m) tc) (nd m) (bytes (dec m))) := hot
  have hsz4 : w3.heap.size ≤ w4.heap.size := hb34.size
  clear hot hB4 h45 hb34
  go_wp2_with (at_builtin; refine wpList_append_own _ rfl (.tmp 22) (.tmp 26) 22 rfl w3.heap.size 5 i0 (.int .u8 0) 1 1 Ybad.underlying22 hi hz0 hz1 hz2 rfl (by decide) (.slice (some ⟨w3.heap.size, 0, none⟩) 1 1) 1 [.int .u8 45] rfl HV.out ⟨tb, 0, none⟩ (nd m) tc (bytes (dec m)) rfl ?_ (HD4.out.cells rfl) (bytes_one _) ?_ ?_ hsz4 ?_)
  · rw [bytes_length, Nat.mul_one]; exact digs_length _ _
  · unfold maxLen; omega
  · omega
  intro v5 w5 hown5 hgrow5 _
  have hb45 : Below w3.heap.size w4 w5 := (Below.refl _ _).grown hgrow5 hsz4 (fun k hk => (HV.out.lt k hk).1)
  have hb35 : Below w3.heap.size w3 w5 := HB34.out.trans hb45
  obtain ⟨tb5, tc5, hv5⟩ := own_parts hown5 (by omega)
  rw [hv5] at hown5 ⊢
  have HB5 : Hid (Below w.heap.size w w5) := HB3.out.trans (hb35.mono HB3.out.size)
  have HS5 : Hid (Src w5 a n z) := src_below hs.out HB5.out
  have HR5 : Hid (w5.ownsRow w.heap.size 5 1 (.slice (some ⟨rb, 0, none⟩) (n + 1 + nd m) rc) (n + 1 + nd m) (cells z n ++ bytes (45 :: dec m))) := own_below HO.out hb35
  have HT5 : Hid (w5.ownsRow w3.heap.size 5 1 (.slice (some ⟨tb5, 0, none⟩) (1 + nd m) tc5) (1 + nd m) (bytes (45 :: dec m))) := hown5
  clear hown5 hgrow5 hb45 hb35 hv5
  go_wp2_with fail
  refine (is_any _ a n c (1 + nd m) (n + 1 + nd m) z (45 :: dec m) rb rc tb5 tc5 _ _ (by omega) hn (by omega) (by rw [List.length_cons, Nat.add_comm]; exact congrArg (1 + ·) (digs_length _ _)) HS5.out HR5.out HT5.out).mono ?_
  rintro e w6 ⟨rfl, q, rfl⟩
  go_wp2
  go_ret
  exact ⟨rfl, below_drewN HB5.out q⟩

theorem signed_big (a : Option Addr) (n c : Nat) (x : Int) (w : World) (hn : 1024 < n) :
    Calls Ybad.prog 5 #[.slice a n c, .int .i64 x] w fun e w' => e = .returned (.bool true) ∧ Below w.heap.size w w' := by
  have hn' : (1024 : Int) < (n : Int) := by omega
  go_enter Ybad.func5, Ybad.ntmps5
  go_wp2
  go_ret
  exact ⟨rfl, Below.refl _ _⟩

theorem signed_any (a : Option Addr) (n c : Nat) (x : Int) (z : Nat → Int) (w : World) (hx1 : -9223372036854775808 ≤ x) (hx2 : x ≤ 9223372036854775807) (hs : Src w a n z) (ht : Tab w) (h0 : 0 < w.heap.size) :
    Calls Ybad.prog 5 #[.slice a n c, .int .i64 x] w fun e w' => e = .returned (.bool true) ∧ Below w.heap.size w w' := by
  by_cases hn : 1024 < n
  · exact signed_big a n c x w hn
  by_cases hx : x < 0
  · exact signed_neg a n c (-x).toNat x z w (by omega) (show x = -((-x).toNat : Int) by omega) (show 1 ≤ (-x).toNat ∧ (-x).toNat ≤ 9223372036854775808 by omega) hx hs ht h0
  · have := signed_pos a n c x.toNat z w (by omega) (show x.toNat < 9223372036854775808 by omega) hs ht h0
    rwa [show ((x.toNat : Nat) : Int) = x by omega] at this
end Go.Proofs.YbulkcgdsDoor
