/-
  The contract of 'zzs4113bdigits' (8).
-/
import Derived.Test.YbulkcgdsDoorRows
import Derived.Test.YbulkcgdsDoorPlain
import Derived.WalkKit
import Derived.WalkSpells
import Derived.WalkLawsBesides
import Derived.ProofKit
import Derived.OpenShut
import Derived.Below
import Derived.WalkSmall
import Derived.Maps.AppendAt
namespace Go.Proofs.YbulkcgdsDoor
open Go.ChangeShapes Go.WideShapes Go.ChangeAt Go.RowKit
set_option linter.unusedVariables false

theorem info5 : (Ybad.prog.info? 5).map (fun i => (i.zero, i.size, i.bytes)) = some (some (.int .u8 0), 1, 1) := by kernel_rfl
def bytes (l : List UInt8) : List Value := l.map fun c => Value.int .u8 (c.toNat : Int)
theorem bytes_append (a b : List UInt8) : bytes (a ++ b) = bytes a ++ bytes b := by simp [bytes]
theorem bytes_length (a : List UInt8) : (bytes a).length = a.length := by simp [bytes]
theorem bytes_one (l : List UInt8) : ∀ u ∈ bytes l, u.oneCell' = true := by
  intro u hu
  simp only [bytes, List.mem_map] at hu
  obtain ⟨c, _, rfl⟩ := hu
  rfl
theorem dig_val (n : Nat) : ((UInt8.ofNat (48 + n % 10)).toNat : Int) = 48 + (n : Int) % 10 := by
  rw [UInt8.toNat_ofNat']; omega

theorem digits_zero (w : World) :
    Calls Ybad.prog 8 #[.int .u64 0] w fun e w' => ∃ v, e = .returned v ∧ w'.ownsRow w.heap.size 5 1 v (nd 0) (bytes (dec 0)) ∧ Below w.heap.size w w' := by
  go_enter Ybad.func8, Ybad.ntmps8
  go_wp2
  go_ret
  exact ⟨_, rfl, World.ownsRow_lit w #[.int .u8 48] 1 (Nat.le_refl _) (by decide) rfl, (Below.refl _ _).alloc (Nat.le_refl _) _⟩

/-- The temporary array: its last k cells are the last k digits. -/
def Tmp (u k m : Nat) (cs : Array Value) : Prop := m + k = 20 ∧ cs.size = 20 ∧ (k = 0 ∨ 10 ^ (k - 1) ≤ u) ∧ cs.toList.drop m = bytes (digs k u)

theorem tmp_step {u k m : Nat} {cs : Array Value} (h : Tmp u k (m + 1) cs) (hu : 10 ^ k ≤ u) : Tmp u (k + 1) m (cs.setIfInBounds m (.int .u8 (48 + ((u / 10 ^ k : Nat) : Int) % 10))) := by
  obtain ⟨h1, h2, h3, h4⟩ := h
  refine ⟨by omega, by simp [h2], .inr (by simpa using hu), ?_⟩
  have hm : m < cs.toList.length := by simp; omega
  rw [Array.toList_setIfInBounds, List.drop_eq_getElem_cons (by simpa using hm), List.getElem_set_self, List.drop_set_of_lt (Nat.lt_succ_self m), h4]
  rw [show k + 1 = 1 + k by omega, digs_add, digs_one, bytes_append]
  simp only [bytes, List.map_cons, List.map_nil, List.cons_append, List.nil_append, dig_val]

theorem pow20 {u k : Nat} (hu : u < 2 ^ 64) (h : 10 ^ k ≤ u) : k < 20 := by
  rcases Nat.lt_or_ge k 20 with h' | h'
  · exact h'
  · have := Nat.pow_le_pow_right (show 0 < 10 by decide) h'
    have : (2 : Nat) ^ 64 ≤ 10 ^ 20 := by decide
    omega
theorem pow_of_pos {u k : Nat} (h : 0 < u / 10 ^ k) : 10 ^ k ≤ u := by
  rcases Nat.lt_or_ge u (10 ^ k) with h' | h'
  · rw [Nat.div_eq_of_lt h'] at h; omega
  · exact h'

set_option maxRecDepth 100000 in
set_option maxHeartbeats 1000000 in
theorem digits_pos (u : Nat) (h1 : 1 ≤ u) (hu : u < 18446744073709551616) (w : World) :
    Calls Ybad.prog 8 #[.int .u64 u] w fun e w' => ∃ v, e = .returned v ∧ w'.ownsRow w.heap.size 5 1 v (nd u) (bytes (dec u)) ∧ Below w.heap.size w w' := by
  obtain ⟨i0, hi, hz0, hz1, hz2⟩ := info_parts info5
  have hu0 : ((u : Int) == 0) = false := by simp; omega
  go_enter Ybad.func8, Ybad.ntmps8
  go_wp2
  go_loopw [0, 4] (fun t i wr => ∃ k m U : Nat, ∃ cs : Array Value, Hid (U = u / 10 ^ k) ∧ t = .int .u64 (U : Int) ∧ i = .int .i64 (m : Int) ∧ Hid (Tmp u k m cs) ∧ Hid (cs.size = 20) ∧ wr = w.alloc (.cells cs 35)) (fun t _ _ => (intOf t).toNat)
  case atStart =>
    refine ⟨0, 20, u, _, ?_, rfl, rfl, ?_, ?_, rfl⟩
    · show u = u / 10 ^ 0
      simp
    · exact ⟨rfl, rfl, .inl rfl, rfl⟩
    · show Array.size _ = 20
      rfl
  case round =>
    obtain ⟨k, m, U, cs, hU, rfl, rfl, ht, hcs, rfl⟩ := hrel
    by_cases hpos : 0 < U
    · have hpow : 10 ^ k ≤ u := pow_of_pos (by rw [← hU.out]; exact hpos)
      have hk20 : k < 20 := pow20 (by omega) hpow
      obtain ⟨m, rfl⟩ : ∃ m', m = m' + 1 := ⟨m - 1, by have := ht.out.1; omega⟩
      have hm20 : m < 20 := by have := ht.out.1; omega
      have hUlt : U < 18446744073709551616 := by
        have := Nat.div_le_self u (10 ^ k)
        have := hU.out
        omega
      have HT : Hid (Tmp u (k + 1) m (cs.setIfInBounds m (.int .u8 (48 + (U : Int) % 10)))) := by
        have := tmp_step ht.out hpow
        rw [← hU.out] at this
        exact this
      have HU : Hid (U / 10 = u / 10 ^ (k + 1)) := by
        show U / 10 = u / 10 ^ (k + 1)
        rw [Nat.pow_succ, ← Nat.div_div_eq_div_mul, ← hU.out]
      have hget : cs[m]? = some cs[m]! := by
        rw [getElem!_def, Array.getElem?_eq_getElem (by rw [hcs.out]; omega)]
      have hpos' : (0 : Int) < (U : Int) := by omega
      clear hpow
      go_wp2
      go_roundw
      case rel => exact ⟨k + 1, m, U / 10, _, HU, by go_num, by go_num, HT, by show (cs.setIfInBounds m _).size = 20; rw [Array.size_setIfInBounds]; exact hcs.out, rfl⟩
      case measure => simp [intOf]; omega
    · obtain rfl : U = 0 := by omega
      have hlt : u < 10 ^ k := by
        rcases Nat.lt_or_ge u (10 ^ k) with h | h
        · exact h
        · have := Nat.div_pos h (Nat.pow_pos (by decide))
          have := hU.out
          omega
      obtain ⟨t1, t2, t3, t4⟩ := ht.out
      have hk0 : k ≠ 0 := fun e => by subst e; simp at hlt; omega
      have hnd : nd u = k := has_unique (nd_has h1 (by have : (2 : Nat) ^ 64 ≤ 10 ^ 20 := by decide
                                                       omega)) ⟨by omega, by rcases t3 with h | h; exact absurd h hk0; exact h, hlt⟩
      have hk20 : k ≤ 20 := by omega
      have hm20 : m < 20 := by omega
      have HN : Hid (nd u = k) := hnd
      have H4 : Hid (∀ j v, (bytes (digs k u))[j]? = some v → (w.alloc (.cells cs 35)).cell? ⟨w.heap.size, m + j, none⟩ = some v) := fun j v hv => by
        rw [← t4, List.getElem?_drop] at hv
        rw [World.cell?_alloc_new, ← Array.getElem?_toList]
        exact hv
      clear hnd t3 t4 hlt
      go_wp2_with (at_make; refine wpList_make_own _ rfl _ _ 22 rfl w.heap.size 5 i0 (.int .u8 0) 1 Ybad.underlying22 hi hz0 hz1 _ _ _ k rfl rfl ?_ ?_ ?_ ?_ ?_)
      · omega
      · rw [hz2]; omega
      · unfold maxLen; omega
      · simp
      intro w1 hown hgrow
      have HO : Hid (w1.ownsRow w.heap.size 5 1 (.slice (some ⟨w.heap.size + 1, 0, none⟩) 0 k) 0 []) := (show _ from by simpa using hown : w1.ownsRow w.heap.size 5 1 (.slice (some ⟨w.heap.size + 1, 0, none⟩) 0 k) 0 [])
      have HG : Hid ((w.alloc (.cells cs 35)).grownBy w1 none) := hgrow
      clear hown hgrow
      have hmI : (m : Int) ≤ 20 := by omega
      have hmne : ¬ 20 = m := by omega
      have hk : 20 - m = k := by omega
      have H5 : Hid (∀ j v, (bytes (digs k u))[j]? = some v → w1.cell? ((⟨w.heap.size, m, none⟩ : Addr).add j) = some v) := fun j v hv => by
        rw [Go.WideShapes.add_plain]
        have hb : Below (w.heap.size + 1) (w.alloc (.cells cs 35)) w1 := (Below.refl _ _).grown HG.out (by simp) (by intro k h; cases h)
        rw [hb.cell (p := ⟨w.heap.size, m + j, none⟩) (Nat.lt_succ_self _)]
        exact H4.out j v hv
      go_wp2_with (at_builtin; refine wpList_append_fits _ rfl (.tmp 24) (.tmp 26) 22 rfl w.heap.size 5 i0 1 Ybad.underlying22 hi hz1 (w.heap.size + 1) 0 k [] rfl HO.out ⟨w.heap.size, m, none⟩ k k (bytes (digs k u)) rfl ?_ H5.out (bytes_one _) (by omega) ?_)
      · rw [bytes_length, digs_length, Nat.mul_one]
      intro w2 hown2 hgrow2
      have HO2 : Hid (w2.ownsRow w.heap.size 5 1 (.slice (some ⟨w.heap.size + 1, 0, none⟩) k k) k (bytes (digs k u))) := (show _ from by simpa using hown2 : w2.ownsRow w.heap.size 5 1 (.slice (some ⟨w.heap.size + 1, 0, none⟩) k k) k (bytes (digs k u)))
      have HB : Hid (Below w.heap.size w w2) := (((Below.refl w.heap.size w).alloc (Nat.le_refl _) _).grown HG.out (by simp) (by intro k h; cases h)).grown hgrow2 (by have := HG.out.size; simp at this; omega) (by intro k h; cases h; exact Nat.le_succ _)
      clear hown2 hgrow2
      go_wp2
      go_ret
      refine ⟨_, rfl, ?_, HB.out⟩
      unfold dec
      rw [HN.out]
      exact HO2.out
end Go.Proofs.YbulkcgdsDoor
