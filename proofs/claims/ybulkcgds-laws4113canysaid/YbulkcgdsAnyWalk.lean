/-
  The walk of 'LawS4113CAny' (4).
-/
import Derived.Test.YbulkcgdsParse
namespace Go.Proofs.Ybulkcgds.lawS4113CAny
open Go.ChangeShapes Go.WideShapes Go.ChangeAt Go.RowKit
set_option linter.unusedVariables false

/-- What is behind the sign. -/
def B0 (s : ByteArray) : List UInt8 := s.data.toList
def B1 (s : ByteArray) : List UInt8 := s.data.toList.tail
theorem B0_len (s : ByteArray) : (B0 s).length = s.size := length_list s
theorem B1_len (s : ByteArray) : (B1 s).length = s.size - 1 := by unfold B1; rw [List.length_tail, length_list]
theorem B0_get (s : ByteArray) (j : Nat) (h : j < (B0 s).length) (h' : j < s.size) : (B0 s)[j]'h = s[j]'h' := list_get s j h'
theorem B1_get (s : ByteArray) (j : Nat) (h : j < (B1 s).length) (h' : j + 1 < s.size) : (B1 s)[j]'h = s[j + 1]'h' :=
  (List.getElem_tail (l := s.data.toList) (i := j) h).trans (list_get s (j + 1) h')

theorem good_of {l : List UInt8} (h1 : 1 ≤ l.length) (h9 : l.length ≤ 9) (ha : l.all isD = true) : good l = true := by simp [good, h1, h9, ha]
theorem good_not {l : List UInt8} (ha : l.all isD = false) : good l = false := by simp [good, ha]
theorem good_len {l : List UInt8} (h : l.length = 0 ∨ 9 < l.length) : good l = false := by simp only [good, Bool.and_eq_false_iff, decide_eq_false_iff_not]; omega

theorem parse_yes (s : ByteArray) (w : World) (hs : s.size ≤ maxLen) (B : List UInt8) (ng : Bool) (hb : body s.data.toList = B) (hn : neg s.data.toList = ng) (hg : good B = true) :
    Calls Yba.prog 5 #[.string s] w fun e w' => e = .returned (.tuple #[.int .i64 (if ng then -val B else val B), .bool true]) ∧ ∃ q, w' = w.drewN q := by
  have := parseInteger_any s w hs
  rw [pv_yes (by rw [hb]; exact hg), hb, hn, hg] at this
  exact this
theorem parse_no (s : ByteArray) (w : World) (hs : s.size ≤ maxLen) (B : List UInt8) (hb : body s.data.toList = B) (hg : good B = false) :
    Calls Yba.prog 5 #[.string s] w fun e w' => e = .returned (.tuple #[.int .i64 0, .bool false]) ∧ ∃ q, w' = w.drewN q := by
  have := parseInteger_any s w hs
  rw [pv_no (by rw [hb]; exact hg), hb, hg] at this
  exact this

theorem walk_empty (s : ByteArray) (w : World) (h0 : s.size = 0) :
    Calls Yba.prog 4 #[.string s] w fun e w' => e = .returned (.bool true) ∧ ∃ q, w' = w.drewN q := by
  have hl : s.data.toList = [] := List.eq_nil_of_length_eq_zero (by rw [length_list]; exact h0)
  have HC : Hid (∀ w, Calls Yba.prog 5 #[.string s] w fun e w' => e = .returned (.tuple #[.int .i64 0, .bool false]) ∧ ∃ q, w' = w.drewN q) :=
    fun w => parse_no s w (by rw [h0]; exact Nat.zero_le _) [] (by rw [hl]; rfl) rfl
  have h0' : (s.size : Int) = 0 := by omega
  clear hl
  go_enter Yba.func4, Yba.ntmps4
  go_wp2_with fail
  refine wp_loop_rounds 1 ?_
  rw [rounds_succ]
  go_wp2_with (go_at_call 5; refine (HC.out _).mono ?_; rintro e w' ⟨rfl, q, rfl⟩)
  go_ret
  exact ⟨rfl, q, rfl⟩

theorem walk_big (s : ByteArray) (w : World) (h0 : 1024 < s.size) :
    Calls Yba.prog 4 #[.string s] w fun e w' => e = .returned (.bool true) ∧ ∃ q, w' = w.drewN q := by
  have h0' : (1024 : Int) < (s.size : Int) := by omega
  go_enter Yba.func4, Yba.ntmps4
  go_wp2
  go_ret
  exact ⟨rfl, 0, rfl⟩


set_option maxRecDepth 100000 in
set_option maxHeartbeats 1000000 in
/-- One to nine bytes behind the sign. -/
theorem bare_in (s : ByteArray) (w : World) (h0 : 0 < s.size) (hlo : 0 < s.size) (hhi : s.size ≤ 9) (hc : ((s[0].toNat : Int) == 43) = false) (hc' : ((s[0].toNat : Int) == 45) = false) (hb : Hid (body s.data.toList = B0 s)) (hng : Hid (neg s.data.toList = false)) :
    Calls Yba.prog 4 #[.string s] w fun e w' => e = .returned (.bool true) ∧ ∃ q, w' = w.drewN q := by
  have HY : Hid ((B0 s).all isD = true → ∀ w, Calls Yba.prog 5 #[.string s] w fun e w' => e = .returned (.tuple #[.int .i64 (val (B0 s)), .bool true]) ∧ ∃ q, w' = w.drewN q) := fun ha w => by
    have := parse_yes s w (by unfold maxLen; omega) (B0 s) false hb.out hng.out (good_of (by rw [B0_len]; omega) (by rw [B0_len]; omega) ha)
    simpa using this
  have HN : Hid ((B0 s).all isD = false → ∀ w, Calls Yba.prog 5 #[.string s] w fun e w' => e = .returned (.tuple #[.int .i64 0, .bool false]) ∧ ∃ q, w' = w.drewN q) := fun ha w =>
    parse_no s w (by unfold maxLen; omega) (B0 s) hb.out (good_not ha)
  have h0' : (0 : Int) < (s.size : Int) := by omega
  have hlo' : (0 : Int) < (s.size : Int) := by omega
  have hhi' : (s.size : Int) ≤ 9 := by omega
  clear hb hng

  go_enter Yba.func4, Yba.ntmps4
  go_wp2_with fail
  go_loop [6, 7, 8, 9] (fun g t i _ => ∃ j : Nat, j ≤ s.size ∧ i = .int .i64 (j : Nat) ∧ ((g = .bool true ∧ t = .int .i64 (val ((B0 s).take j)) ∧ Hid (((B0 s).take j).all isD = true)) ∨ (g = .bool false ∧ Hid ((B0 s).all isD = false)))) (fun _ _ i _ => s.size - (intOf i).toNat)
  case atStart => exact ⟨0, by omega, rfl, .inl ⟨rfl, rfl, rfl⟩⟩
  case round =>
    obtain ⟨j, hj, rfl, ⟨rfl, rfl, hall⟩ | ⟨rfl, hbad⟩⟩ := hrel
    · by_cases hlt : j < s.size
      · have hjl : j < (B0 s).length := by rw [B0_len]; omega
        obtain ⟨v1, v2⟩ := val_lim hall.out (by rw [List.length_take, B0_len]; omega)
        have hsn := all_take_snoc (B0 s) j hjl
        have hvs := val_take_snoc (B0 s) j hjl
        rw [B0_get s j hjl hlt] at hsn hvs
        rw [hall.out, Bool.true_and] at hsn
        cases hd : isD s[j] with
        | true =>
          obtain ⟨d1, d2⟩ := isD_bounds hd
          have HA : Hid (((B0 s).take (j + 1)).all isD = true) := hsn.trans hd
          have HV : Hid (val ((B0 s).take (j + 1)) = val ((B0 s).take j) * 10 + ((s[j].toNat : Int) - 48)) := hvs
          have d3 : decide (57 < (s[j].toNat : Int)) = false := by simp; omega
          clear hsn hvs hd
          go_wp2
          go_round
          case rel => exact ⟨j + 1, by omega, by go_num, .inl ⟨rfl, (congrArg (Value.int .i64) HV.out).symm, HA⟩⟩
          case measure => simp [intOf]; omega
        | false =>
          have HF : Hid ((B0 s).all isD = false) := not_all hjl (by rw [B0_get s j hjl hlt]; exact hd)
          have d := isD_not hd
          clear hsn hvs hd
          rcases d with d1 | d1
          · go_wp2
            go_round
            case rel => exact ⟨j + 1, by omega, by go_num, .inr ⟨rfl, HF⟩⟩
            case measure => simp [intOf]; omega
          · have d2 : 48 ≤ (s[j].toNat : Int) := by omega
            go_wp2
            go_round
            case rel => exact ⟨j + 1, by omega, by go_num, .inr ⟨rfl, HF⟩⟩
            case measure => simp [intOf]; omega
      · have e : (B0 s).take j = B0 s := List.take_of_length_le (by rw [B0_len]; omega)
        rw [e] at hall ⊢
        have HC : Hid (∀ w, Calls Yba.prog 5 #[.string s] w fun e w' => e = .returned (.tuple #[.int .i64 (val (B0 s)), .bool true]) ∧ ∃ q, w' = w.drewN q) := HY.out hall.out
        obtain ⟨v1, v2⟩ := val_lim hall.out (by rw [B0_len]; omega)
        clear e
        go_wp2_with (go_at_call 5; refine (HC.out _).mono ?_; rintro e w' ⟨rfl, q, rfl⟩)
        go_ret
        exact ⟨rfl, q, rfl⟩
    · have HC : Hid (∀ w, Calls Yba.prog 5 #[.string s] w fun e w' => e = .returned (.tuple #[.int .i64 0, .bool false]) ∧ ∃ q, w' = w.drewN q) := HN.out hbad.out
      by_cases hlt : j < s.size
      all_goals
        go_wp2_with (go_at_call 5; refine (HC.out _).mono ?_; rintro e w' ⟨rfl, q, rfl⟩)
        go_ret
        exact ⟨rfl, q, rfl⟩

set_option maxRecDepth 100000 in
/-- None, or more than nine. -/
theorem bare_out (s : ByteArray) (w : World) (h0 : 0 < s.size) (hk : s.size ≤ 1024) (hlo : s.size = 0 ∨ 9 < s.size) (hc : ((s[0].toNat : Int) == 43) = false) (hc' : ((s[0].toNat : Int) == 45) = false) (hb : Hid (body s.data.toList = B0 s)) :
    Calls Yba.prog 4 #[.string s] w fun e w' => e = .returned (.bool true) ∧ ∃ q, w' = w.drewN q := by
  have HC : Hid (∀ w, Calls Yba.prog 5 #[.string s] w fun e w' => e = .returned (.tuple #[.int .i64 0, .bool false]) ∧ ∃ q, w' = w.drewN q) := fun w =>
    parse_no s w (by unfold maxLen; omega) (B0 s) hb.out (good_len (by rw [B0_len]; omega))
  have h0' : (0 : Int) < (s.size : Int) := by omega
  have hk' : (s.size : Int) ≤ 1024 := by omega
  clear hb
  rcases hlo with hlo | hlo
  · omega
  · have hl1 : (0 : Int) < (s.size : Int) := by omega
    have hl2 : (9 : Int) < (s.size : Int) := by omega
    have hl3 : decide ((s.size : Int) ≤ 9) = false := by simp; omega
    go_enter Yba.func4, Yba.ntmps4
    go_wp2_with fail
    refine wp_loop_rounds 1 ?_
    rw [rounds_succ]
    go_wp2_with (go_at_call 5; refine (HC.out _).mono ?_; rintro e w' ⟨rfl, q, rfl⟩)
    go_ret
    exact ⟨rfl, q, rfl⟩

set_option maxRecDepth 100000 in
set_option maxHeartbeats 1000000 in
/-- One to nine bytes behind the sign. -/
theorem plus_in (s : ByteArray) (w : World) (h0 : 0 < s.size) (hlo : 1 < s.size) (hhi : s.size ≤ 10) (hc : ((s[0].toNat : Int) == 43) = true) (hc' : ((s[0].toNat : Int) == 45) = false) (hb : Hid (body s.data.toList = B1 s)) (hng : Hid (neg s.data.toList = false)) :
    Calls Yba.prog 4 #[.string s] w fun e w' => e = .returned (.bool true) ∧ ∃ q, w' = w.drewN q := by
  have HY : Hid ((B1 s).all isD = true → ∀ w, Calls Yba.prog 5 #[.string s] w fun e w' => e = .returned (.tuple #[.int .i64 (val (B1 s)), .bool true]) ∧ ∃ q, w' = w.drewN q) := fun ha w => by
    have := parse_yes s w (by unfold maxLen; omega) (B1 s) false hb.out hng.out (good_of (by rw [B1_len]; omega) (by rw [B1_len]; omega) ha)
    simpa using this
  have HN : Hid ((B1 s).all isD = false → ∀ w, Calls Yba.prog 5 #[.string s] w fun e w' => e = .returned (.tuple #[.int .i64 0, .bool false]) ∧ ∃ q, w' = w.drewN q) := fun ha w =>
    parse_no s w (by unfold maxLen; omega) (B1 s) hb.out (good_not ha)
  have h0' : (0 : Int) < (s.size : Int) := by omega
  have hlo' : (1 : Int) < (s.size : Int) := by omega
  have hhi' : (s.size : Int) ≤ 10 := by omega
  clear hb hng
  have hd9 : decide ((s.size : Int) - 1 ≤ 9) = true := by simp; omega
  go_enter Yba.func4, Yba.ntmps4
  go_wp2_with fail
  go_loop [6, 7, 8, 9] (fun g t i _ => ∃ j : Nat, j + 1 ≤ s.size ∧ i = .int .i64 (j + 1 : Nat) ∧ ((g = .bool true ∧ t = .int .i64 (val ((B1 s).take j)) ∧ Hid (((B1 s).take j).all isD = true)) ∨ (g = .bool false ∧ Hid ((B1 s).all isD = false)))) (fun _ _ i _ => s.size - (intOf i).toNat)
  case atStart => exact ⟨0, by omega, rfl, .inl ⟨rfl, rfl, rfl⟩⟩
  case round =>
    obtain ⟨j, hj, rfl, ⟨rfl, rfl, hall⟩ | ⟨rfl, hbad⟩⟩ := hrel
    · by_cases hlt : j + 1 < s.size
      · have hjl : j < (B1 s).length := by rw [B1_len]; omega
        obtain ⟨v1, v2⟩ := val_lim hall.out (by rw [List.length_take, B1_len]; omega)
        have hsn := all_take_snoc (B1 s) j hjl
        have hvs := val_take_snoc (B1 s) j hjl
        rw [B1_get s j hjl hlt] at hsn hvs
        rw [hall.out, Bool.true_and] at hsn
        cases hd : isD s[j + 1] with
        | true =>
          obtain ⟨d1, d2⟩ := isD_bounds hd
          have HA : Hid (((B1 s).take (j + 1)).all isD = true) := hsn.trans hd
          have HV : Hid (val ((B1 s).take (j + 1)) = val ((B1 s).take j) * 10 + ((s[j + 1].toNat : Int) - 48)) := hvs
          have d3 : decide (57 < (s[j + 1].toNat : Int)) = false := by simp; omega
          clear hsn hvs hd
          go_wp2
          go_round
          case rel => exact ⟨j + 1, by omega, by go_num, .inl ⟨rfl, (congrArg (Value.int .i64) HV.out).symm, HA⟩⟩
          case measure => simp [intOf]; omega
        | false =>
          have HF : Hid ((B1 s).all isD = false) := not_all hjl (by rw [B1_get s j hjl hlt]; exact hd)
          have d := isD_not hd
          clear hsn hvs hd
          rcases d with d1 | d1
          · go_wp2
            go_round
            case rel => exact ⟨j + 1, by omega, by go_num, .inr ⟨rfl, HF⟩⟩
            case measure => simp [intOf]; omega
          · have d2 : 48 ≤ (s[j + 1].toNat : Int) := by omega
            go_wp2
            go_round
            case rel => exact ⟨j + 1, by omega, by go_num, .inr ⟨rfl, HF⟩⟩
            case measure => simp [intOf]; omega
      · have e : (B1 s).take j = B1 s := List.take_of_length_le (by rw [B1_len]; omega)
        rw [e] at hall ⊢
        have HC : Hid (∀ w, Calls Yba.prog 5 #[.string s] w fun e w' => e = .returned (.tuple #[.int .i64 (val (B1 s)), .bool true]) ∧ ∃ q, w' = w.drewN q) := HY.out hall.out
        obtain ⟨v1, v2⟩ := val_lim hall.out (by rw [B1_len]; omega)
        clear e
        go_wp2_with (go_at_call 5; refine (HC.out _).mono ?_; rintro e w' ⟨rfl, q, rfl⟩)
        go_ret
        exact ⟨rfl, q, rfl⟩
    · have HC : Hid (∀ w, Calls Yba.prog 5 #[.string s] w fun e w' => e = .returned (.tuple #[.int .i64 0, .bool false]) ∧ ∃ q, w' = w.drewN q) := HN.out hbad.out
      by_cases hlt : j + 1 < s.size
      all_goals
        go_wp2_with (go_at_call 5; refine (HC.out _).mono ?_; rintro e w' ⟨rfl, q, rfl⟩)
        go_ret
        exact ⟨rfl, q, rfl⟩

set_option maxRecDepth 100000 in
/-- None, or more than nine. -/
theorem plus_out (s : ByteArray) (w : World) (h0 : 0 < s.size) (hk : s.size ≤ 1024) (hlo : s.size = 1 ∨ 10 < s.size) (hc : ((s[0].toNat : Int) == 43) = true) (hc' : ((s[0].toNat : Int) == 45) = false) (hb : Hid (body s.data.toList = B1 s)) :
    Calls Yba.prog 4 #[.string s] w fun e w' => e = .returned (.bool true) ∧ ∃ q, w' = w.drewN q := by
  have HC : Hid (∀ w, Calls Yba.prog 5 #[.string s] w fun e w' => e = .returned (.tuple #[.int .i64 0, .bool false]) ∧ ∃ q, w' = w.drewN q) := fun w =>
    parse_no s w (by unfold maxLen; omega) (B1 s) hb.out (good_len (by rw [B1_len]; omega))
  have h0' : (0 : Int) < (s.size : Int) := by omega
  have hk' : (s.size : Int) ≤ 1024 := by omega
  clear hb
  rcases hlo with hlo | hlo
  · have hlo1 : (s.size : Int) = 1 := by omega
    go_enter Yba.func4, Yba.ntmps4
    go_wp2_with fail
    refine wp_loop_rounds 1 ?_
    rw [rounds_succ]
    go_wp2_with (go_at_call 5; refine (HC.out _).mono ?_; rintro e w' ⟨rfl, q, rfl⟩)
    go_ret
    exact ⟨rfl, q, rfl⟩
  · have hl1 : (1 : Int) < (s.size : Int) := by omega
    have hl2 : (10 : Int) < (s.size : Int) := by omega
    have hl3 : decide ((s.size : Int) - 1 ≤ 9) = false := by simp; omega
    go_enter Yba.func4, Yba.ntmps4
    go_wp2_with fail
    refine wp_loop_rounds 1 ?_
    rw [rounds_succ]
    go_wp2_with (go_at_call 5; refine (HC.out _).mono ?_; rintro e w' ⟨rfl, q, rfl⟩)
    go_ret
    exact ⟨rfl, q, rfl⟩

set_option maxRecDepth 100000 in
set_option maxHeartbeats 1000000 in
/-- One to nine bytes behind the sign. -/
theorem minus_in (s : ByteArray) (w : World) (h0 : 0 < s.size) (hlo : 1 < s.size) (hhi : s.size ≤ 10) (hc' : ((s[0].toNat : Int) == 45) = true) (hb : Hid (body s.data.toList = B1 s)) (hng : Hid (neg s.data.toList = true)) :
    Calls Yba.prog 4 #[.string s] w fun e w' => e = .returned (.bool true) ∧ ∃ q, w' = w.drewN q := by
  have HY : Hid ((B1 s).all isD = true → ∀ w, Calls Yba.prog 5 #[.string s] w fun e w' => e = .returned (.tuple #[.int .i64 (-val (B1 s)), .bool true]) ∧ ∃ q, w' = w.drewN q) := fun ha w => by
    have := parse_yes s w (by unfold maxLen; omega) (B1 s) true hb.out hng.out (good_of (by rw [B1_len]; omega) (by rw [B1_len]; omega) ha)
    simpa using this
  have HN : Hid ((B1 s).all isD = false → ∀ w, Calls Yba.prog 5 #[.string s] w fun e w' => e = .returned (.tuple #[.int .i64 0, .bool false]) ∧ ∃ q, w' = w.drewN q) := fun ha w =>
    parse_no s w (by unfold maxLen; omega) (B1 s) hb.out (good_not ha)
  have h0' : (0 : Int) < (s.size : Int) := by omega
  have hlo' : (1 : Int) < (s.size : Int) := by omega
  have hhi' : (s.size : Int) ≤ 10 := by omega
  clear hb hng
  have hd9 : decide ((s.size : Int) - 1 ≤ 9) = true := by simp; omega
  go_enter Yba.func4, Yba.ntmps4
  go_wp2_with fail
  go_loop [6, 7, 8, 9] (fun g t i _ => ∃ j : Nat, j + 1 ≤ s.size ∧ i = .int .i64 (j + 1 : Nat) ∧ ((g = .bool true ∧ t = .int .i64 (val ((B1 s).take j)) ∧ Hid (((B1 s).take j).all isD = true)) ∨ (g = .bool false ∧ Hid ((B1 s).all isD = false)))) (fun _ _ i _ => s.size - (intOf i).toNat)
  case atStart => exact ⟨0, by omega, rfl, .inl ⟨rfl, rfl, rfl⟩⟩
  case round =>
    obtain ⟨j, hj, rfl, ⟨rfl, rfl, hall⟩ | ⟨rfl, hbad⟩⟩ := hrel
    · by_cases hlt : j + 1 < s.size
      · have hjl : j < (B1 s).length := by rw [B1_len]; omega
        obtain ⟨v1, v2⟩ := val_lim hall.out (by rw [List.length_take, B1_len]; omega)
        have hsn := all_take_snoc (B1 s) j hjl
        have hvs := val_take_snoc (B1 s) j hjl
        rw [B1_get s j hjl hlt] at hsn hvs
        rw [hall.out, Bool.true_and] at hsn
        cases hd : isD s[j + 1] with
        | true =>
          obtain ⟨d1, d2⟩ := isD_bounds hd
          have HA : Hid (((B1 s).take (j + 1)).all isD = true) := hsn.trans hd
          have HV : Hid (val ((B1 s).take (j + 1)) = val ((B1 s).take j) * 10 + ((s[j + 1].toNat : Int) - 48)) := hvs
          have d3 : decide (57 < (s[j + 1].toNat : Int)) = false := by simp; omega
          clear hsn hvs hd
          go_wp2
          go_round
          case rel => exact ⟨j + 1, by omega, by go_num, .inl ⟨rfl, (congrArg (Value.int .i64) HV.out).symm, HA⟩⟩
          case measure => simp [intOf]; omega
        | false =>
          have HF : Hid ((B1 s).all isD = false) := not_all hjl (by rw [B1_get s j hjl hlt]; exact hd)
          have d := isD_not hd
          clear hsn hvs hd
          rcases d with d1 | d1
          · go_wp2
            go_round
            case rel => exact ⟨j + 1, by omega, by go_num, .inr ⟨rfl, HF⟩⟩
            case measure => simp [intOf]; omega
          · have d2 : 48 ≤ (s[j + 1].toNat : Int) := by omega
            go_wp2
            go_round
            case rel => exact ⟨j + 1, by omega, by go_num, .inr ⟨rfl, HF⟩⟩
            case measure => simp [intOf]; omega
      · have e : (B1 s).take j = B1 s := List.take_of_length_le (by rw [B1_len]; omega)
        rw [e] at hall ⊢
        have HC : Hid (∀ w, Calls Yba.prog 5 #[.string s] w fun e w' => e = .returned (.tuple #[.int .i64 (-val (B1 s)), .bool true]) ∧ ∃ q, w' = w.drewN q) := HY.out hall.out
        obtain ⟨v1, v2⟩ := val_lim hall.out (by rw [B1_len]; omega)
        clear e
        go_wp2_with (go_at_call 5; refine (HC.out _).mono ?_; rintro e w' ⟨rfl, q, rfl⟩)
        go_ret
        exact ⟨rfl, q, rfl⟩
    · have HC : Hid (∀ w, Calls Yba.prog 5 #[.string s] w fun e w' => e = .returned (.tuple #[.int .i64 0, .bool false]) ∧ ∃ q, w' = w.drewN q) := HN.out hbad.out
      by_cases hlt : j + 1 < s.size
      all_goals
        go_wp2_with (go_at_call 5; refine (HC.out _).mono ?_; rintro e w' ⟨rfl, q, rfl⟩)
        go_ret
        exact ⟨rfl, q, rfl⟩

set_option maxRecDepth 100000 in
/-- None, or more than nine. -/
theorem minus_out (s : ByteArray) (w : World) (h0 : 0 < s.size) (hk : s.size ≤ 1024) (hlo : s.size = 1 ∨ 10 < s.size) (hc' : ((s[0].toNat : Int) == 45) = true) (hb : Hid (body s.data.toList = B1 s)) :
    Calls Yba.prog 4 #[.string s] w fun e w' => e = .returned (.bool true) ∧ ∃ q, w' = w.drewN q := by
  have HC : Hid (∀ w, Calls Yba.prog 5 #[.string s] w fun e w' => e = .returned (.tuple #[.int .i64 0, .bool false]) ∧ ∃ q, w' = w.drewN q) := fun w =>
    parse_no s w (by unfold maxLen; omega) (B1 s) hb.out (good_len (by rw [B1_len]; omega))
  have h0' : (0 : Int) < (s.size : Int) := by omega
  have hk' : (s.size : Int) ≤ 1024 := by omega
  clear hb
  rcases hlo with hlo | hlo
  · have hlo1 : (s.size : Int) = 1 := by omega
    go_enter Yba.func4, Yba.ntmps4
    go_wp2_with fail
    refine wp_loop_rounds 1 ?_
    rw [rounds_succ]
    go_wp2_with (go_at_call 5; refine (HC.out _).mono ?_; rintro e w' ⟨rfl, q, rfl⟩)
    go_ret
    exact ⟨rfl, q, rfl⟩
  · have hl1 : (1 : Int) < (s.size : Int) := by omega
    have hl2 : (10 : Int) < (s.size : Int) := by omega
    have hl3 : decide ((s.size : Int) - 1 ≤ 9) = false := by simp; omega
    go_enter Yba.func4, Yba.ntmps4
    go_wp2_with fail
    refine wp_loop_rounds 1 ?_
    rw [rounds_succ]
    go_wp2_with (go_at_call 5; refine (HC.out _).mono ?_; rintro e w' ⟨rfl, q, rfl⟩)
    go_ret
    exact ⟨rfl, q, rfl⟩
end Go.Proofs.Ybulkcgds.lawS4113CAny
