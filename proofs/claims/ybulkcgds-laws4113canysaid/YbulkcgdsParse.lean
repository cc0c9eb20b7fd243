/-
  The contracts of isDigit (9), isDigits (8), parseDigits (7), cutSign (6), parseInteger (5).
-/
import Derived.Test.YbulkcgdsRows
import Derived.Test.YbulkcgdsPlain
import Derived.WalkKit
import Derived.WalkSpells
import Derived.WalkLawsBesides
import Derived.ProofKit
import Derived.OpenShut
import Derived.Below
import Derived.WalkSmall
import Derived.Deep.QuietTactic
import Derived.BigQuiet
namespace Go.Proofs.Ybulkcgds
open Go.ChangeShapes Go.WideShapes Go.ChangeAt Go.RowKit
set_option linter.unusedVariables false

theorem isDigit_yes (n : Int) (w : World) (h1 : 48 ≤ n) (h2 : n ≤ 57) : Calls Yba.prog 9 #[.int .u8 n] w fun e w' => e = .returned (.bool true) ∧ w' = w := by
  go_enter Yba.func9, Yba.ntmps9
  go_wp2
  go_ret
  exact ⟨rfl, rfl⟩
theorem isDigit_no (n : Int) (w : World) (h : n < 48 ∨ 57 < n) : Calls Yba.prog 9 #[.int .u8 n] w fun e w' => e = .returned (.bool false) ∧ w' = w := by
  rcases h with h | h
  · go_enter Yba.func9, Yba.ntmps9
    go_wp2
    go_ret
    exact ⟨rfl, rfl⟩
  · have h' : 48 ≤ n := by omega
    have hd : decide (n ≤ 57) = false := by simp; omega
    go_enter Yba.func9, Yba.ntmps9
    go_wp2
    go_ret
    exact ⟨rfl, rfl⟩

theorem list_get (s : ByteArray) (k : Nat) (h : k < s.size) : s.data.toList[k]'(by simpa using h) = s[k] := by simp; rfl

theorem length_list (s : ByteArray) : s.data.toList.length = s.size := Array.length_toList
theorem nonempty_of {s : ByteArray} (h : 0 < s.size) : s.toList.isEmpty = false := by
  rw [ByteArray.toList_eq]
  have hl := length_list s
  cases hc : s.data.toList with
  | nil => rw [hc] at hl; simp at hl; omega
  | cons _ _ => rfl
theorem ret_tup {k : IntKind} {a b : Int} {v : Value} (h : a = b) : Ending.returned (.tuple #[.int k a, v]) = .returned (.tuple #[.int k b, v]) := by rw [h]
theorem empty_of {s : ByteArray} (h : s.size = 0) : s.toList.isEmpty = true := by
  rw [ByteArray.toList_eq]
  have h2 : s.data.size = 0 := h
  simp [Array.eq_empty_of_size_eq_zero h2]

/-- 'isDigits': one or more digits and nothing else. -/
theorem isDigits_yes (s : ByteArray) (w : World) (hs : s.size ≤ maxLen) (h0 : 0 < s.size) (ha : Hid (s.data.toList.all isD = true)) :
    Calls Yba.prog 8 #[.string s] w fun e w' => e = .returned (.bool true) ∧ w' = w := by
  unfold maxLen at hs
  have he : s.toList.isEmpty = false := nonempty_of h0
  go_enter Yba.func8, Yba.ntmps8
  go_wp2
  go_loop [3] (fun i => ∃ k : Nat, k ≤ s.size ∧ i = .int .i64 k) (fun i => s.size - (intOf i).toNat)
  case atStart => exact ⟨0, Nat.zero_le _, rfl⟩
  case round =>
    obtain ⟨k, hk, rfl⟩ := hrel
    by_cases hlt : k < s.size
    · have hb : 48 ≤ (s[k].toNat : Int) ∧ (s[k].toNat : Int) ≤ 57 := by
        have := List.all_eq_true.1 ha.out _ (List.getElem_mem (l := s.data.toList) (n := k) (by simpa using hlt))
        rw [list_get s k hlt] at this
        exact isD_bounds this
      obtain ⟨hb1, hb2⟩ := hb
      go_wp2_with (go_at_call 9; refine (isDigit_yes _ _ hb1 hb2).mono ?_; rintro e w' ⟨rfl, rfl⟩)
      go_round
      case rel => exact ⟨k + 1, by omega, by go_num⟩
      case measure => simp [intOf]; omega
    · go_wp2
      go_ret
      exact ⟨rfl, rfl⟩

theorem isDigits_empty (s : ByteArray) (w : World) (h0 : s.size = 0) :
    Calls Yba.prog 8 #[.string s] w fun e w' => e = .returned (.bool false) ∧ w' = w := by
  have he := empty_of h0
  have h0' : (s.size : Int) = 0 := by omega
  go_enter Yba.func8, Yba.ntmps8
  go_wp2
  refine wp_loop_rounds 1 ?_
  rw [rounds_succ]
  go_wp2
  go_ret
  exact ⟨rfl, rfl⟩

theorem isDigits_no (s : ByteArray) (w : World) (hs : s.size ≤ maxLen) (ha : Hid (s.data.toList.all isD = false)) :
    Calls Yba.prog 8 #[.string s] w fun e w' => e = .returned (.bool false) ∧ w' = w := by
  unfold maxLen at hs
  go_enter Yba.func8, Yba.ntmps8
  go_wp2
  go_loop [3] (fun i => ∃ k : Nat, k ≤ s.size ∧ i = .int .i64 k ∧ Hid ((s.data.toList.take k).all isD = true)) (fun i => s.size - (intOf i).toNat)
  case atStart => exact ⟨0, Nat.zero_le _, rfl, rfl⟩
  case round =>
    obtain ⟨k, hk, rfl, hall⟩ := hrel
    by_cases hlt : k < s.size
    · have hsn := all_take_snoc s.data.toList k (by simpa using hlt)
      rw [list_get s k hlt, hall.out, Bool.true_and] at hsn
      cases hd : isD s[k] with
      | true =>
        have HN : Hid ((s.data.toList.take (k + 1)).all isD = true) := hsn.trans hd
        obtain ⟨hb1, hb2⟩ := isD_bounds hd
        clear hsn hd
        go_wp2_with (go_at_call 9; refine (isDigit_yes _ _ hb1 hb2).mono ?_; rintro e w' ⟨rfl, rfl⟩)
        go_round
        case rel => exact ⟨k + 1, by omega, by go_num, HN⟩
        case measure => simp [intOf]; omega
      | false =>
        have hb := isD_not hd
        have HB : Hid ((s[k].toNat : Int) < 48 ∨ 57 < (s[k].toNat : Int)) := hb
        clear hsn hd hb
        go_wp2_with (go_at_call 9; refine (isDigit_no _ _ HB.out).mono ?_; rintro e w' ⟨rfl, rfl⟩)
        go_ret
        exact ⟨rfl, rfl⟩
    · exfalso
      have h1 := hall.out
      rw [List.take_of_length_le (by simp; omega), ha.out] at h1
      cases h1

/-- 'parseDigits' on one to nine digits. -/
theorem parseDigits_yes (s : ByteArray) (w : World) (h0 : 0 < s.size) (h9 : s.size ≤ 9) (ha : Hid (s.data.toList.all isD = true)) :
    Calls Yba.prog 7 #[.string s] w fun e w' => e = .returned (.tuple #[.int .i64 (val s.data.toList), .bool true]) ∧ w' = w := by
  have h9' : (s.size : Int) ≤ 9 := by omega
  go_enter Yba.func7, Yba.ntmps7
  go_wp2_with (go_at_call 8; refine (isDigits_yes s _ (by unfold maxLen; omega) h0 ha).mono ?_; rintro e w' ⟨rfl, rfl⟩)
  go_loop [2, 4] (fun n i => ∃ k : Nat, k ≤ s.size ∧ i = .int .i64 k ∧ n = .int .i64 (val (s.data.toList.take k))) (fun _ i => s.size - (intOf i).toNat)
  case atStart => exact ⟨0, Nat.zero_le _, rfl, rfl⟩
  case round =>
    obtain ⟨k, hk, rfl, rfl⟩ := hrel
    by_cases hlt : k < s.size
    · have hb := List.all_eq_true.1 ha.out _ (List.getElem_mem (l := s.data.toList) (n := k) (by simpa using hlt))
      rw [list_get s k hlt] at hb
      obtain ⟨hb1, hb2⟩ := isD_bounds hb
      obtain ⟨hv1, hv2⟩ := val_lim (l := s.data.toList.take k) (List.all_eq_true.2 fun x hx => List.all_eq_true.1 ha.out x (List.mem_of_mem_take hx)) (by simp; omega)
      have hsn := val_take_snoc s.data.toList k (by simpa using hlt)
      rw [list_get s k hlt] at hsn
      have HS : Hid (val (s.data.toList.take (k + 1)) = val (s.data.toList.take k) * 10 + ((s[k].toNat : Int) - 48)) := hsn
      clear hsn hb
      go_wp2
      go_round
      case rel => exact ⟨k + 1, by omega, by go_num, by rw [HS.out]⟩
      case measure => simp [intOf]; omega
    · go_wp2
      go_ret2
      exact ⟨ret_tup (by rw [List.take_of_length_le (by rw [length_list]; omega)]), rfl⟩

theorem parseDigits_no (s : ByteArray) (w : World) (hs : s.size ≤ maxLen) (hg : Hid (good s.data.toList = false)) :
    Calls Yba.prog 7 #[.string s] w fun e w' => e = .returned (.tuple #[.int .i64 0, .bool false]) ∧ w' = w := by
  have hs' := hs
  unfold maxLen at hs'
  by_cases h9 : (9 : Int) < (s.size : Int)
  · go_enter Yba.func7, Yba.ntmps7
    go_wp2
    go_ret2
    exact ⟨rfl, rfl⟩
  · have h9' : (s.size : Int) ≤ 9 := by omega
    have hd9 : decide ((9 : Int) < (s.size : Int)) = false := by simpa using h9
    have hc : Hid (Calls Yba.prog 8 #[.string s] w fun e w' => e = .returned (.bool false) ∧ w' = w) := by
      by_cases h0 : s.size = 0
      · exact isDigits_empty s w h0
      · refine isDigits_no s w hs ?_
        have := hg.out
        simp only [good, Bool.and_eq_false_iff, decide_eq_false_iff_not] at this
        rcases this with (h | h) | h
        · exfalso; rw [length_list] at h; omega
        · exfalso; rw [length_list] at h; omega
        · exact h
    go_enter Yba.func7, Yba.ntmps7
    go_wp2_with (go_at_call 8; refine hc.out.mono ?_; rintro e w' ⟨rfl, rfl⟩)
    go_ret2
    exact ⟨rfl, rfl⟩

/-- 'cutSign': nothing to cut off the empty string. -/
theorem cutSign_empty (s : ByteArray) (w : World) (h0 : s.size = 0) :
    Calls Yba.prog 6 #[.string s] w fun e w' => e = .returned (.tuple #[.bool false, .string s]) ∧ w' = w := by
  have he := empty_of h0
  go_enter Yba.func6, Yba.ntmps6
  go_wp2
  go_ret2
  exact ⟨rfl, rfl⟩
theorem cutSign_plus (s : ByteArray) (w : World) (h0 : 0 < s.size) (hc : (s[0].toNat : Int) = 43) :
    Calls Yba.prog 6 #[.string s] w fun e w' => e = .returned (.tuple #[.bool false, .string (s.extract 1 s.size)]) ∧ ∃ q, w' = w.drewN q := by
  have he := nonempty_of h0
  have h0' : (0 : Int) < (s.size : Int) := by omega
  have h1' : (1 : Int) ≤ (s.size : Int) := by omega
  go_enter Yba.func6, Yba.ntmps6
  go_wp2
  go_quiet (fail)
  go_wp2
  go_ret2
  exact ⟨rfl, nq, rfl⟩
theorem cutSign_minus (s : ByteArray) (w : World) (h0 : 0 < s.size) (hc : (s[0].toNat : Int) = 45) :
    Calls Yba.prog 6 #[.string s] w fun e w' => e = .returned (.tuple #[.bool true, .string (s.extract 1 s.size)]) ∧ ∃ q, w' = w.drewN q := by
  have he := nonempty_of h0
  have h0' : (0 : Int) < (s.size : Int) := by omega
  have h1' : (1 : Int) ≤ (s.size : Int) := by omega
  go_enter Yba.func6, Yba.ntmps6
  go_wp2
  go_quiet (fail)
  go_wp2
  go_ret2
  exact ⟨rfl, nq, rfl⟩
theorem cutSign_bare (s : ByteArray) (w : World) (h0 : 0 < s.size) (hc : ((s[0].toNat : Int) == 43) = false) (hc' : ((s[0].toNat : Int) == 45) = false) :
    Calls Yba.prog 6 #[.string s] w fun e w' => e = .returned (.tuple #[.bool false, .string s]) ∧ w' = w := by
  have he := nonempty_of h0
  have h0' : (0 : Int) < (s.size : Int) := by omega
  go_enter Yba.func6, Yba.ntmps6
  go_wp2
  go_ret2
  exact ⟨rfl, rfl⟩

/-- 'parseInteger' where what is behind the sign is no number. -/
theorem parseInteger_no (s t : ByteArray) (ng : Bool) (w : World) (ht : t.size ≤ maxLen) (hg : Hid (good t.data.toList = false))
    (hcut : Hid (Calls Yba.prog 6 #[.string s] w fun e w' => e = .returned (.tuple #[.bool ng, .string t]) ∧ ∃ q, w' = w.drewN q)) :
    Calls Yba.prog 5 #[.string s] w fun e w' => e = .returned (.tuple #[.int .i64 0, .bool false]) ∧ ∃ q, w' = w.drewN q := by
  cases ng
  all_goals
    go_enter Yba.func5, Yba.ntmps5
    go_wp2_with (first
      | (go_at_call 6; refine hcut.out.mono ?_; rintro e w' ⟨rfl, q, rfl⟩)
      | (go_at_call 7; refine (parseDigits_no t _ ht hg).mono ?_; rintro e w' ⟨rfl, rfl⟩))
    go_ret2
    exact ⟨rfl, q, rfl⟩
/-- 'parseInteger' where it is one. -/
theorem parseInteger_yes (s t : ByteArray) (ng : Bool) (w : World) (hg : Hid (good t.data.toList = true))
    (hcut : Hid (Calls Yba.prog 6 #[.string s] w fun e w' => e = .returned (.tuple #[.bool ng, .string t]) ∧ ∃ q, w' = w.drewN q)) :
    Calls Yba.prog 5 #[.string s] w fun e w' => e = .returned (.tuple #[.int .i64 (if ng then -val t.data.toList else val t.data.toList), .bool true]) ∧ ∃ q, w' = w.drewN q := by
  obtain ⟨g1, g2, g3⟩ := good_parts hg.out
  obtain ⟨v1, v2⟩ := val_lim g3 g2
  rw [length_list] at g1 g2
  have G3 : Hid (t.data.toList.all isD = true) := g3
  clear g3
  cases ng
  all_goals
    go_enter Yba.func5, Yba.ntmps5
    go_wp2_with (first
      | (go_at_call 6; refine hcut.out.mono ?_; rintro e w' ⟨rfl, q, rfl⟩)
      | (go_at_call 7; refine (parseDigits_yes t _ g1 g2 G3).mono ?_; rintro e w' ⟨rfl, rfl⟩))
    go_ret2
    exact ⟨ret_tup (by simp), q, rfl⟩

theorem extract1 (s : ByteArray) : (s.extract 1 s.size).data.toList = s.data.toList.tail := by
  simp [ByteArray.data_extract]
  exact List.take_of_length_le (by rw [List.length_tail, length_list]; omega)
theorem head_list (s : ByteArray) (h : 0 < s.size) : ∃ r, s.data.toList = s[0] :: r := by
  cases hc : s.data.toList with
  | nil => have := length_list s; rw [hc] at this; simp at this; omega
  | cons c r => exact ⟨r, by rw [← list_get s 0 h]; simp [hc]⟩

/-- 'parseInteger' at every string. -/
theorem parseInteger_any (s : ByteArray) (w : World) (hs : s.size ≤ maxLen) :
    Calls Yba.prog 5 #[.string s] w fun e w' => e = .returned (.tuple #[.int .i64 (pv s.data.toList), .bool (good (body s.data.toList))]) ∧ ∃ q, w' = w.drewN q := by
  obtain ⟨ng, t, hng, ht, hts, hcut⟩ : ∃ ng t, ng = neg s.data.toList ∧ t.data.toList = body s.data.toList ∧ t.size ≤ maxLen ∧
      Hid (Calls Yba.prog 6 #[.string s] w fun e w' => e = .returned (.tuple #[.bool ng, .string t]) ∧ ∃ q, w' = w.drewN q) := by
    by_cases h0 : s.size = 0
    · have hl : s.data.toList = [] := List.eq_nil_of_length_eq_zero (by rw [length_list]; exact h0)
      exact ⟨false, s, by rw [hl]; rfl, by rw [hl]; rfl, hs, (cutSign_empty s w h0).mono fun e w' h => ⟨h.1, 0, h.2⟩⟩
    · have hp : 0 < s.size := by omega
      obtain ⟨r, hl⟩ := head_list s hp
      by_cases hc : (s[0].toNat : Int) = 43
      · have e : s[0] = 43 := UInt8.toNat_inj.1 (by have : (43 : UInt8).toNat = 43 := rfl; omega)
        exact ⟨false, s.extract 1 s.size, by rw [hl, e]; rfl, by rw [extract1, hl, e]; rfl, by rw [← length_list, extract1, List.length_tail, length_list]; omega, cutSign_plus s w hp hc⟩
      · by_cases hc' : (s[0].toNat : Int) = 45
        · have e : s[0] = 45 := UInt8.toNat_inj.1 (by have : (45 : UInt8).toNat = 45 := rfl; omega)
          exact ⟨true, s.extract 1 s.size, by rw [hl, e]; rfl, by rw [extract1, hl, e]; rfl, by rw [← length_list, extract1, List.length_tail, length_list]; omega, cutSign_minus s w hp hc'⟩
        · have n1 : ¬ s[0] = 43 := fun e => hc (by rw [e]; rfl)
          have n2 : ¬ s[0] = 45 := fun e => hc' (by rw [e]; rfl)
          exact ⟨false, s, by rw [hl]; simp [neg, n2], by rw [hl]; simp [body, n1, n2], hs, (cutSign_bare s w hp (by simpa using hc) (by simpa using hc')).mono fun e w' h => ⟨h.1, 0, h.2⟩⟩
  cases hg : good (body s.data.toList) with
  | true =>
    refine (parseInteger_yes s t ng w (show Hid _ from by rw [ht]; exact hg) hcut).mono fun e w' h => ⟨?_, h.2⟩
    rw [h.1, pv_yes hg, ← ht, hng]
  | false =>
    refine (parseInteger_no s t ng w hts (show Hid _ from by rw [ht]; exact hg) hcut).mono fun e w' h => ⟨?_, h.2⟩
    rw [h.1, pv_no hg]
end Go.Proofs.Ybulkcgds
