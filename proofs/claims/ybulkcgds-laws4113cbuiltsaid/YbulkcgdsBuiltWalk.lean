/-
  The walk of 'LawS4113CBuilt' (3).
-/
import Derived.Test.YbulkcgdsParse
import Derived.Test.YbulkcgdsBuiltPlain
import Derived.Laws.IdiomStrings
import Derived.Maps.AppendAt
namespace Go.Proofs.Ybulkcgds.lawS4113CBuilt
open Go.ChangeShapes Go.WideShapes Go.ChangeAt Go.RowKit
set_option linter.unusedVariables false

theorem info5 : (Yba.prog.info? 5).map (fun i => (i.zero, i.size, i.bytes)) = some (some (.int .u8 0), 1, 1) := by kernel_rfl

def bytes (l : List UInt8) : List Value := l.map fun c => Value.int .u8 (c.toNat : Int)

/-- The row that the law makes: the sign and k digits. -/
def Rel (w : World) (n p : Nat) (l : List UInt8) (wr : World) : Prop :=
  Below w.heap.size w wr ∧ wr.ownsRow w.heap.size 5 1 (.slice (some ⟨w.heap.size, 0, none⟩) p (n + 1)) p (bytes l)

theorem rel_make {w w1 : World} {n : Nat} (h : w1.ownsRow w.heap.size 5 1 (.slice (some ⟨w.heap.size, 0, none⟩) 0 (n + 1)) 0 []) (hg : w.grownBy w1 none) : Rel w n 0 [] w1 :=
  ⟨(Below.refl _ _).grown hg (Nat.le_refl _) (by intro k h; cases h), h⟩

theorem rel_push {w wr w' : World} {n p : Nat} {l : List UInt8} {o : Obj} (c : UInt8) (x : Int) (hx : x = (c.toNat : Int)) (h : Rel w n p l wr) (hsz : w.heap.size ≤ wr.heap.size)
    (ho : w'.ownsRow w.heap.size 5 1 (.slice (some ⟨w.heap.size, 0, none⟩) (p + 1) (n + 1)) (p + 1) (bytes l ++ [.int .u8 x])) (hg : (wr.alloc o).grownBy w' (some w.heap.size)) : Rel w n (p + 1) (l ++ [c]) w' := by
  refine ⟨(h.1.alloc hsz o).grown hg (by simp; omega) (by intro k h; cases h; exact Nat.le_refl _), ?_⟩
  simpa [bytes, hx] using ho

theorem rel_cells {w wr : World} {n p : Nat} {l : List UInt8} (h : Rel w n p l wr) : ∀ j (hj : j < l.length), wr.cell? ((⟨w.heap.size, 0, none⟩ : Addr).add j) = some (.int .u8 (l[j].toNat : Int)) := fun j hj => by
  refine h.2.cells (g := w.heap.size) rfl j _ ?_
  simp [bytes, hj]

theorem rel_len {w wr : World} {n p : Nat} {l : List UInt8} (h : Rel w n p l wr) : l.length = p := by
  have := h.2.1; simpa [bytes] using this

set_option maxRecDepth 100000 in
set_option maxHeartbeats 1000000 in
theorem walk_0 (b off n c : Nat) (sg : Int) (z : Nat → Int) (w : World) (hn0 : 0 < n) (hn : n ≤ 1024) (s0 : 0 ≤ sg) (s1 : sg ≤ 255) (hb : b < w.heap.size) (hsg : sg % 3 = 0)
    (hz : Hid (∀ i, 0 ≤ z i ∧ z i ≤ 255)) (hc : Hid (∀ i, i < n → w.cell? ⟨b, off + i, none⟩ = some (.int .u8 (z i)))) :
    Calls Yba.prog 3 #[.int .u8 sg, .slice (some ⟨b, off, none⟩) n c] w fun e w' => e = .returned (.bool true) ∧ Below w.heap.size w w' := by
  obtain ⟨i0, hi, hz0, hz1, hz2⟩ := info_parts info5
  have hn' : (n : Int) ≤ 1024 := by omega
  have hs1 : (sg % 3 == 1) = false := by simp; omega
  have hs2 : (sg % 3 == 2) = false := by simp; omega
  have hn00 : ((n : Int) == 0) = false := by simp; omega
  clear hsg
  go_enter Yba.func3, Yba.ntmps3
  go_wp2_with (at_make; refine wpList_make_own _ rfl _ _ 22 rfl w.heap.size 5 i0 (.int .u8 0) 1 Yba.underlying22 hi hz0 hz1 _ _ _ (n + 1) rfl rfl ?_ ?_ ?_ ?_ ?_)
  · omega
  · rw [hz2]; omega
  · unfold maxLen; omega
  · exact Nat.le_refl _
  intro w1 hown hgrow
  have HR : Hid (Rel w n 0 [] w1) := rel_make hown hgrow
  clear hown hgrow
  go_wp2_with fail
  go_loopw [5, 6, 7, 8] (fun v t i _ wr => ∃ k : Nat, k ≤ n ∧ i = .int .i64 k ∧ t = .int .i64 (val (ds z (min k 9))) ∧ v = .slice (some ⟨w.heap.size, 0, none⟩) (k) (n + 1) ∧ Rel w n (k) (ds z k) wr) (fun _ _ i _ _ => n - (intOf i).toNat)
  case atStart => exact ⟨0, Nat.zero_le _, rfl, rfl, rfl, HR.out⟩
  case round =>
    obtain ⟨k, hk, rfl, rfl, rfl, hr⟩ := hrel
    have hsz := hr.1.size
    by_cases hlt : k < n
    · have hck : wr.cell? ⟨b, off + k, none⟩ = some (.int .u8 (z k)) := (hr.1.cell (p := ⟨b, off + k, none⟩) hb).trans (hc.out k hlt)
      obtain ⟨z1, z2⟩ := hz.out k
      have HK : Hid (Rel w n (k) (ds z k) wr) := hr
      have HO : Hid (wr.ownsRow w.heap.size 5 1 (.slice (some ⟨w.heap.size, 0, none⟩) (k) (n + 1)) (k) (bytes (ds z k))) := hr.2
      clear hr
      by_cases h9 : k < 9
      · have hmin : min k 9 = k := by omega
        obtain ⟨v1, v2⟩ := val_ds_lim z k (by omega)
        go_wp2_with (at_builtin; refine wpList_append_fits _ rfl (.tmp 41) (.tmp 44) 22 rfl w.heap.size 5 i0 1 Yba.underlying22 hi hz1 w.heap.size (k) (n + 1) (bytes (ds z k)) rfl (HO.out.alloc _) ⟨wr.heap.size, 0, none⟩ 1 1 [.int .u8 (48 + z k % 10)] rfl rfl (cell_one_new _ _ _) ?_ (by omega) ?_)
        · intro u hu; simp at hu; subst hu; rfl
        intro w' hown' hgrow'
        have HP := rel_push (db (z k)) (48 + z k % 10) (db_toNat _).symm HK.out hsz hown' hgrow'
        have HN : Hid (Rel w n ((k + 1)) (ds z (k + 1)) w') := by rw [ds_succ]; exact HP
        clear hown' hgrow' HP
        go_wp2
        go_roundw
        case rel => first | exact ⟨k + 1, by omega, by go_num, by rw [show min (k + 1) 9 = k + 1 by omega, val_ds_succ], by go_num, HN.out⟩ | ((repeat apply Exists.intro); exact ⟨⟨k + 1, by omega, by go_num, by rw [show min (k + 1) 9 = k + 1 by omega, val_ds_succ], by go_num, HN.out⟩, rfl⟩)
        case measure => simp [intOf]; omega
      · have hmin : min k 9 = 9 := by omega
        obtain ⟨v1, v2⟩ := val_ds_lim z 9 (by omega)
        go_wp2_with (at_builtin; refine wpList_append_fits _ rfl (.tmp 41) (.tmp 44) 22 rfl w.heap.size 5 i0 1 Yba.underlying22 hi hz1 w.heap.size (k) (n + 1) (bytes (ds z k)) rfl (HO.out.alloc _) ⟨wr.heap.size, 0, none⟩ 1 1 [.int .u8 (48 + z k % 10)] rfl rfl (cell_one_new _ _ _) ?_ (by omega) ?_)
        · intro u hu; simp at hu; subst hu; rfl
        intro w' hown' hgrow'
        have HP := rel_push (db (z k)) (48 + z k % 10) (db_toNat _).symm HK.out hsz hown' hgrow'
        have HN : Hid (Rel w n ((k + 1)) (ds z (k + 1)) w') := by rw [ds_succ]; exact HP
        clear hown' hgrow' HP
        go_wp2
        go_roundw
        case rel => first | exact ⟨k + 1, by omega, by go_num, by rw [show min (k + 1) 9 = 9 by omega], by go_num, HN.out⟩ | ((repeat apply Exists.intro); exact ⟨⟨k + 1, by omega, by go_num, by rw [show min (k + 1) 9 = 9 by omega], by go_num, HN.out⟩, rfl⟩)
        case measure => simp [intOf]; omega
    · obtain rfl : n = k := by omega
      have hlen := rel_len hr
      have hcv := run_convert_bytes_back (P := Yba.prog) wr 22 9 5 ⟨w.heap.size, 0, none⟩ (n + 1) (ds z n) Yba.underlying22 Yba.underlying5 Yba.underlying9 (rel_cells hr)
      rw [hlen] at hcv
      have HB : Hid (Below w.heap.size w wr) := hr.1
      have hSz : ByteArray.size ⟨(ds z n).toArray⟩ ≤ maxLen := by
        show ((ds z n).toArray).size ≤ maxLen
        rw [List.size_toArray, hlen]; unfold maxLen; omega
      have HP := fun w => parseInteger_any ⟨(ds z n).toArray⟩ w hSz
      simp only at HP
      clear hr hlen hSz
      by_cases h9 : n ≤ 9
      · have hmin : min n 9 = n := by omega
        obtain ⟨v1, v2⟩ := val_ds_lim z n h9
        obtain ⟨a1, a2⟩ := ans0 z n (by omega) h9
        rw [a1, a2] at HP
        have HC : Hid (∀ w, Calls Yba.prog 5 #[.string ⟨(ds z n).toArray⟩] w fun e w' => e = .returned (.tuple #[.int .i64 (val (ds z n)), .bool true]) ∧ ∃ q, w' = w.drewN q) := HP
        clear HP a1 a2
        go_wp2_with (go_at_call 5; refine (HC.out _).mono ?_; rintro e w' ⟨rfl, q, rfl⟩)
        go_ret
        exact ⟨rfl, below_drewN HB.out q⟩
      · have h9' : (9 : Int) < (n : Int) := by omega
        obtain ⟨a1, a2⟩ := bad0 z n (.inr (by omega))
        rw [a1, a2] at HP
        have HC : Hid (∀ w, Calls Yba.prog 5 #[.string ⟨(ds z n).toArray⟩] w fun e w' => e = .returned (.tuple #[.int .i64 0, .bool false]) ∧ ∃ q, w' = w.drewN q) := HP
        clear HP a1 a2
        go_wp2_with (go_at_call 5; refine (HC.out _).mono ?_; rintro e w' ⟨rfl, q, rfl⟩)
        go_ret
        exact ⟨rfl, below_drewN HB.out q⟩

set_option maxRecDepth 100000 in
set_option maxHeartbeats 1000000 in
theorem walk_1 (b off n c : Nat) (sg : Int) (z : Nat → Int) (w : World) (hn0 : 0 < n) (hn : n ≤ 1024) (s0 : 0 ≤ sg) (s1 : sg ≤ 255) (hb : b < w.heap.size) (hsg : sg % 3 = 1)
    (hz : Hid (∀ i, 0 ≤ z i ∧ z i ≤ 255)) (hc : Hid (∀ i, i < n → w.cell? ⟨b, off + i, none⟩ = some (.int .u8 (z i)))) :
    Calls Yba.prog 3 #[.int .u8 sg, .slice (some ⟨b, off, none⟩) n c] w fun e w' => e = .returned (.bool true) ∧ Below w.heap.size w w' := by
  obtain ⟨i0, hi, hz0, hz1, hz2⟩ := info_parts info5
  have hn' : (n : Int) ≤ 1024 := by omega
  have hs1 : (sg % 3 == 1) = true := by simp; omega
  have hs2 : (sg % 3 == 2) = false := by simp; omega
  have hn00 : ((n : Int) == 0) = false := by simp; omega
  clear hsg
  go_enter Yba.func3, Yba.ntmps3
  go_wp2_with (at_make; refine wpList_make_own _ rfl _ _ 22 rfl w.heap.size 5 i0 (.int .u8 0) 1 Yba.underlying22 hi hz0 hz1 _ _ _ (n + 1) rfl rfl ?_ ?_ ?_ ?_ ?_)
  · omega
  · rw [hz2]; omega
  · unfold maxLen; omega
  · exact Nat.le_refl _
  intro w1 hown hgrow
  have HR : Hid (Rel w n 0 [] w1) := rel_make hown hgrow
  clear hown hgrow
  have HO0 : Hid (w1.ownsRow w.heap.size 5 1 (.slice (some ⟨w.heap.size, 0, none⟩) 0 (n + 1)) 0 (bytes [])) := HR.out.2
  have hsz1 := HR.out.1.size
  go_wp2_with (at_builtin; refine wpList_append_fits _ rfl (.tmp 22) (.tmp 23) 22 rfl w.heap.size 5 i0 1 Yba.underlying22 hi hz1 w.heap.size 0 (n + 1) (bytes []) rfl (HO0.out.alloc _) ⟨w1.heap.size, 0, none⟩ 1 1 [.int .u8 43] rfl rfl (cell_one_new _ _ _) ?_ (by omega) ?_) 
  · intro u hu; simp at hu; subst hu; rfl
  intro w2 hown2 hgrow2
  have HR2 : Hid (Rel w n 1 [43] w2) := rel_push 43 43 rfl HR.out hsz1 hown2 hgrow2
  clear hown2 hgrow2 HO0 HR
  have HR := HR2
  clear HR2
  go_wp2_with fail
  go_loopw [5, 6, 7, 8] (fun v t i _ wr => ∃ k : Nat, k ≤ n ∧ i = .int .i64 k ∧ t = .int .i64 (val (ds z (min k 9))) ∧ v = .slice (some ⟨w.heap.size, 0, none⟩) (k + 1) (n + 1) ∧ Rel w n (k + 1) (43 :: ds z k) wr) (fun _ _ i _ _ => n - (intOf i).toNat)
  case atStart => exact ⟨0, Nat.zero_le _, rfl, rfl, rfl, HR.out⟩
  case round =>
    obtain ⟨k, hk, rfl, rfl, rfl, hr⟩ := hrel
    have hsz := hr.1.size
    by_cases hlt : k < n
    · have hck : wr.cell? ⟨b, off + k, none⟩ = some (.int .u8 (z k)) := (hr.1.cell (p := ⟨b, off + k, none⟩) hb).trans (hc.out k hlt)
      obtain ⟨z1, z2⟩ := hz.out k
      have HK : Hid (Rel w n (k + 1) (43 :: ds z k) wr) := hr
      have HO : Hid (wr.ownsRow w.heap.size 5 1 (.slice (some ⟨w.heap.size, 0, none⟩) (k + 1) (n + 1)) (k + 1) (bytes (43 :: ds z k))) := hr.2
      clear hr
      by_cases h9 : k < 9
      · have hmin : min k 9 = k := by omega
        obtain ⟨v1, v2⟩ := val_ds_lim z k (by omega)
        go_wp2_with (at_builtin; refine wpList_append_fits _ rfl (.tmp 41) (.tmp 44) 22 rfl w.heap.size 5 i0 1 Yba.underlying22 hi hz1 w.heap.size (k + 1) (n + 1) (bytes (43 :: ds z k)) rfl (HO.out.alloc _) ⟨wr.heap.size, 0, none⟩ 1 1 [.int .u8 (48 + z k % 10)] rfl rfl (cell_one_new _ _ _) ?_ (by omega) ?_)
        · intro u hu; simp at hu; subst hu; rfl
        intro w' hown' hgrow'
        have HP := rel_push (db (z k)) (48 + z k % 10) (db_toNat _).symm HK.out hsz hown' hgrow'
        have HN : Hid (Rel w n ((k + 1) + 1) (43 :: ds z (k + 1)) w') := by rw [ds_succ]; exact HP
        clear hown' hgrow' HP
        go_wp2
        go_roundw
        case rel => first | exact ⟨k + 1, by omega, by go_num, by rw [show min (k + 1) 9 = k + 1 by omega, val_ds_succ], by go_num, HN.out⟩ | ((repeat apply Exists.intro); exact ⟨⟨k + 1, by omega, by go_num, by rw [show min (k + 1) 9 = k + 1 by omega, val_ds_succ], by go_num, HN.out⟩, rfl⟩)
        case measure => simp [intOf]; omega
      · have hmin : min k 9 = 9 := by omega
        obtain ⟨v1, v2⟩ := val_ds_lim z 9 (by omega)
        go_wp2_with (at_builtin; refine wpList_append_fits _ rfl (.tmp 41) (.tmp 44) 22 rfl w.heap.size 5 i0 1 Yba.underlying22 hi hz1 w.heap.size (k + 1) (n + 1) (bytes (43 :: ds z k)) rfl (HO.out.alloc _) ⟨wr.heap.size, 0, none⟩ 1 1 [.int .u8 (48 + z k % 10)] rfl rfl (cell_one_new _ _ _) ?_ (by omega) ?_)
        · intro u hu; simp at hu; subst hu; rfl
        intro w' hown' hgrow'
        have HP := rel_push (db (z k)) (48 + z k % 10) (db_toNat _).symm HK.out hsz hown' hgrow'
        have HN : Hid (Rel w n ((k + 1) + 1) (43 :: ds z (k + 1)) w') := by rw [ds_succ]; exact HP
        clear hown' hgrow' HP
        go_wp2
        go_roundw
        case rel => first | exact ⟨k + 1, by omega, by go_num, by rw [show min (k + 1) 9 = 9 by omega], by go_num, HN.out⟩ | ((repeat apply Exists.intro); exact ⟨⟨k + 1, by omega, by go_num, by rw [show min (k + 1) 9 = 9 by omega], by go_num, HN.out⟩, rfl⟩)
        case measure => simp [intOf]; omega
    · obtain rfl : n = k := by omega
      have hlen := rel_len hr
      have hcv := run_convert_bytes_back (P := Yba.prog) wr 22 9 5 ⟨w.heap.size, 0, none⟩ (n + 1) (43 :: ds z n) Yba.underlying22 Yba.underlying5 Yba.underlying9 (rel_cells hr)
      rw [hlen] at hcv
      have HB : Hid (Below w.heap.size w wr) := hr.1
      have hSz : ByteArray.size ⟨(43 :: ds z n).toArray⟩ ≤ maxLen := by
        show ((43 :: ds z n).toArray).size ≤ maxLen
        rw [List.size_toArray, hlen]; unfold maxLen; omega
      have HP := fun w => parseInteger_any ⟨(43 :: ds z n).toArray⟩ w hSz
      simp only at HP
      clear hr hlen hSz
      by_cases h9 : n ≤ 9
      · have hmin : min n 9 = n := by omega
        obtain ⟨v1, v2⟩ := val_ds_lim z n h9
        obtain ⟨a1, a2⟩ := ans1 z n (by omega) h9
        rw [a1, a2] at HP
        have HC : Hid (∀ w, Calls Yba.prog 5 #[.string ⟨(43 :: ds z n).toArray⟩] w fun e w' => e = .returned (.tuple #[.int .i64 (val (ds z n)), .bool true]) ∧ ∃ q, w' = w.drewN q) := HP
        clear HP a1 a2
        go_wp2_with (go_at_call 5; refine (HC.out _).mono ?_; rintro e w' ⟨rfl, q, rfl⟩)
        go_ret
        exact ⟨rfl, below_drewN HB.out q⟩
      · have h9' : (9 : Int) < (n : Int) := by omega
        obtain ⟨a1, a2⟩ := bad1 z n (.inr (by omega))
        rw [a1, a2] at HP
        have HC : Hid (∀ w, Calls Yba.prog 5 #[.string ⟨(43 :: ds z n).toArray⟩] w fun e w' => e = .returned (.tuple #[.int .i64 0, .bool false]) ∧ ∃ q, w' = w.drewN q) := HP
        clear HP a1 a2
        go_wp2_with (go_at_call 5; refine (HC.out _).mono ?_; rintro e w' ⟨rfl, q, rfl⟩)
        go_ret
        exact ⟨rfl, below_drewN HB.out q⟩

set_option maxRecDepth 100000 in
set_option maxHeartbeats 1000000 in
theorem walk_2 (b off n c : Nat) (sg : Int) (z : Nat → Int) (w : World) (hn0 : 0 < n) (hn : n ≤ 1024) (s0 : 0 ≤ sg) (s1 : sg ≤ 255) (hb : b < w.heap.size) (hsg : sg % 3 = 2)
    (hz : Hid (∀ i, 0 ≤ z i ∧ z i ≤ 255)) (hc : Hid (∀ i, i < n → w.cell? ⟨b, off + i, none⟩ = some (.int .u8 (z i)))) :
    Calls Yba.prog 3 #[.int .u8 sg, .slice (some ⟨b, off, none⟩) n c] w fun e w' => e = .returned (.bool true) ∧ Below w.heap.size w w' := by
  obtain ⟨i0, hi, hz0, hz1, hz2⟩ := info_parts info5
  have hn' : (n : Int) ≤ 1024 := by omega
  have hs1 : (sg % 3 == 1) = false := by simp; omega
  have hs2 : (sg % 3 == 2) = true := by simp; omega
  have hn00 : ((n : Int) == 0) = false := by simp; omega
  clear hsg
  go_enter Yba.func3, Yba.ntmps3
  go_wp2_with (at_make; refine wpList_make_own _ rfl _ _ 22 rfl w.heap.size 5 i0 (.int .u8 0) 1 Yba.underlying22 hi hz0 hz1 _ _ _ (n + 1) rfl rfl ?_ ?_ ?_ ?_ ?_)
  · omega
  · rw [hz2]; omega
  · unfold maxLen; omega
  · exact Nat.le_refl _
  intro w1 hown hgrow
  have HR : Hid (Rel w n 0 [] w1) := rel_make hown hgrow
  clear hown hgrow
  have HO0 : Hid (w1.ownsRow w.heap.size 5 1 (.slice (some ⟨w.heap.size, 0, none⟩) 0 (n + 1)) 0 (bytes [])) := HR.out.2
  have hsz1 := HR.out.1.size
  go_wp2_with (at_builtin; refine wpList_append_fits _ rfl (.tmp 27) (.tmp 28) 22 rfl w.heap.size 5 i0 1 Yba.underlying22 hi hz1 w.heap.size 0 (n + 1) (bytes []) rfl (HO0.out.alloc _) ⟨w1.heap.size, 0, none⟩ 1 1 [.int .u8 45] rfl rfl (cell_one_new _ _ _) ?_ (by omega) ?_) 
  · intro u hu; simp at hu; subst hu; rfl
  intro w2 hown2 hgrow2
  have HR2 : Hid (Rel w n 1 [45] w2) := rel_push 45 45 rfl HR.out hsz1 hown2 hgrow2
  clear hown2 hgrow2 HO0 HR
  have HR := HR2
  clear HR2
  go_wp2_with fail
  go_loopw [5, 6, 7, 8] (fun v t i _ wr => ∃ k : Nat, k ≤ n ∧ i = .int .i64 k ∧ t = .int .i64 (val (ds z (min k 9))) ∧ v = .slice (some ⟨w.heap.size, 0, none⟩) (k + 1) (n + 1) ∧ Rel w n (k + 1) (45 :: ds z k) wr) (fun _ _ i _ _ => n - (intOf i).toNat)
  case atStart => exact ⟨0, Nat.zero_le _, rfl, rfl, rfl, HR.out⟩
  case round =>
    obtain ⟨k, hk, rfl, rfl, rfl, hr⟩ := hrel
    have hsz := hr.1.size
    by_cases hlt : k < n
    · have hck : wr.cell? ⟨b, off + k, none⟩ = some (.int .u8 (z k)) := (hr.1.cell (p := ⟨b, off + k, none⟩) hb).trans (hc.out k hlt)
      obtain ⟨z1, z2⟩ := hz.out k
      have HK : Hid (Rel w n (k + 1) (45 :: ds z k) wr) := hr
      have HO : Hid (wr.ownsRow w.heap.size 5 1 (.slice (some ⟨w.heap.size, 0, none⟩) (k + 1) (n + 1)) (k + 1) (bytes (45 :: ds z k))) := hr.2
      clear hr
      by_cases h9 : k < 9
      · have hmin : min k 9 = k := by omega
        obtain ⟨v1, v2⟩ := val_ds_lim z k (by omega)
        go_wp2_with (at_builtin; refine wpList_append_fits _ rfl (.tmp 41) (.tmp 44) 22 rfl w.heap.size 5 i0 1 Yba.underlying22 hi hz1 w.heap.size (k + 1) (n + 1) (bytes (45 :: ds z k)) rfl (HO.out.alloc _) ⟨wr.heap.size, 0, none⟩ 1 1 [.int .u8 (48 + z k % 10)] rfl rfl (cell_one_new _ _ _) ?_ (by omega) ?_)
        · intro u hu; simp at hu; subst hu; rfl
        intro w' hown' hgrow'
        have HP := rel_push (db (z k)) (48 + z k % 10) (db_toNat _).symm HK.out hsz hown' hgrow'
        have HN : Hid (Rel w n ((k + 1) + 1) (45 :: ds z (k + 1)) w') := by rw [ds_succ]; exact HP
        clear hown' hgrow' HP
        go_wp2
        go_roundw
        case rel => first | exact ⟨k + 1, by omega, by go_num, by rw [show min (k + 1) 9 = k + 1 by omega, val_ds_succ], by go_num, HN.out⟩ | ((repeat apply Exists.intro); exact ⟨⟨k + 1, by omega, by go_num, by rw [show min (k + 1) 9 = k + 1 by omega, val_ds_succ], by go_num, HN.out⟩, rfl⟩)
        case measure => simp [intOf]; omega
      · have hmin : min k 9 = 9 := by omega
        obtain ⟨v1, v2⟩ := val_ds_lim z 9 (by omega)
        go_wp2_with (at_builtin; refine wpList_append_fits _ rfl (.tmp 41) (.tmp 44) 22 rfl w.heap.size 5 i0 1 Yba.underlying22 hi hz1 w.heap.size (k + 1) (n + 1) (bytes (45 :: ds z k)) rfl (HO.out.alloc _) ⟨wr.heap.size, 0, none⟩ 1 1 [.int .u8 (48 + z k % 10)] rfl rfl (cell_one_new _ _ _) ?_ (by omega) ?_)
        · intro u hu; simp at hu; subst hu; rfl
        intro w' hown' hgrow'
        have HP := rel_push (db (z k)) (48 + z k % 10) (db_toNat _).symm HK.out hsz hown' hgrow'
        have HN : Hid (Rel w n ((k + 1) + 1) (45 :: ds z (k + 1)) w') := by rw [ds_succ]; exact HP
        clear hown' hgrow' HP
        go_wp2
        go_roundw
        case rel => first | exact ⟨k + 1, by omega, by go_num, by rw [show min (k + 1) 9 = 9 by omega], by go_num, HN.out⟩ | ((repeat apply Exists.intro); exact ⟨⟨k + 1, by omega, by go_num, by rw [show min (k + 1) 9 = 9 by omega], by go_num, HN.out⟩, rfl⟩)
        case measure => simp [intOf]; omega
    · obtain rfl : n = k := by omega
      have hlen := rel_len hr
      have hcv := run_convert_bytes_back (P := Yba.prog) wr 22 9 5 ⟨w.heap.size, 0, none⟩ (n + 1) (45 :: ds z n) Yba.underlying22 Yba.underlying5 Yba.underlying9 (rel_cells hr)
      rw [hlen] at hcv
      have HB : Hid (Below w.heap.size w wr) := hr.1
      have hSz : ByteArray.size ⟨(45 :: ds z n).toArray⟩ ≤ maxLen := by
        show ((45 :: ds z n).toArray).size ≤ maxLen
        rw [List.size_toArray, hlen]; unfold maxLen; omega
      have HP := fun w => parseInteger_any ⟨(45 :: ds z n).toArray⟩ w hSz
      simp only at HP
      clear hr hlen hSz
      by_cases h9 : n ≤ 9
      · have hmin : min n 9 = n := by omega
        obtain ⟨v1, v2⟩ := val_ds_lim z n h9
        obtain ⟨a1, a2⟩ := ans2 z n (by omega) h9
        rw [a1, a2] at HP
        have HC : Hid (∀ w, Calls Yba.prog 5 #[.string ⟨(45 :: ds z n).toArray⟩] w fun e w' => e = .returned (.tuple #[.int .i64 (-val (ds z n)), .bool true]) ∧ ∃ q, w' = w.drewN q) := HP
        clear HP a1 a2
        go_wp2_with (go_at_call 5; refine (HC.out _).mono ?_; rintro e w' ⟨rfl, q, rfl⟩)
        go_ret
        exact ⟨rfl, below_drewN HB.out q⟩
      · have h9' : (9 : Int) < (n : Int) := by omega
        obtain ⟨a1, a2⟩ := bad2 z n (.inr (by omega))
        rw [a1, a2] at HP
        have HC : Hid (∀ w, Calls Yba.prog 5 #[.string ⟨(45 :: ds z n).toArray⟩] w fun e w' => e = .returned (.tuple #[.int .i64 0, .bool false]) ∧ ∃ q, w' = w.drewN q) := HP
        clear HP a1 a2
        go_wp2_with (go_at_call 5; refine (HC.out _).mono ?_; rintro e w' ⟨rfl, q, rfl⟩)
        go_ret
        exact ⟨rfl, below_drewN HB.out q⟩

set_option maxRecDepth 100000 in
theorem zero_0 (a : Option Addr) (c : Nat) (sg : Int) (w : World) (s0 : 0 ≤ sg) (s1 : sg ≤ 255) (hsg : sg % 3 = 0) :
    Calls Yba.prog 3 #[.int .u8 sg, .slice a 0 c] w fun e w' => e = .returned (.bool true) ∧ Below w.heap.size w w' := by
  obtain ⟨i0, hi, hz0, hz1, hz2⟩ := info_parts info5
  have hs1 : (sg % 3 == 1) = false := by simp; omega
  have hs2 : (sg % 3 == 2) = false := by simp; omega
  clear hsg
  go_enter Yba.func3, Yba.ntmps3
  go_wp2_with (at_make; refine wpList_make_own _ rfl _ _ 22 rfl w.heap.size 5 i0 (.int .u8 0) 1 Yba.underlying22 hi hz0 hz1 _ _ _ 1 rfl rfl rfl ?_ ?_ ?_ ?_)
  · rw [hz2]; omega
  · unfold maxLen; omega
  · exact Nat.le_refl _
  intro w1 hown hgrow
  have HR : Hid (Rel w 0 0 [] w1) := rel_make hown hgrow
  clear hown hgrow
  go_wp2_with fail
  have hcv := run_convert_bytes_back (P := Yba.prog) w1 22 9 5 ⟨w.heap.size, 0, none⟩ 1 [] Yba.underlying22 Yba.underlying5 Yba.underlying9 (rel_cells HR.out)
  have hcv' : (convert 22 9 (.slice (some ⟨w.heap.size, 0, none⟩) 0 1)).run Yba.prog w1 = .ok (.string ⟨([] : List UInt8).toArray⟩) w1 := hcv
  have HB : Hid (Below w.heap.size w w1) := HR.out.1
  have HP := fun w => parseInteger_any ⟨([] : List UInt8).toArray⟩ w (by show (([] : List UInt8).toArray).size ≤ maxLen; rw [List.size_toArray]; decide)
  simp only at HP
  obtain ⟨a1, a2⟩ : pv [] = 0 ∧ good (body []) = false := bad0 (fun _ => 0) 0 (.inl rfl)
  rw [a1, a2] at HP
  have HC : Hid (∀ w, Calls Yba.prog 5 #[.string ⟨([] : List UInt8).toArray⟩] w fun e w' => e = .returned (.tuple #[.int .i64 0, .bool false]) ∧ ∃ q, w' = w.drewN q) := HP
  clear HP a1 a2 hcv
  refine wp_loop_rounds 1 ?_
  rw [rounds_succ]
  go_wp2_with (go_at_call 5; refine (HC.out _).mono ?_; rintro e w' ⟨rfl, q, rfl⟩)
  go_ret
  exact ⟨rfl, below_drewN HB.out q⟩

set_option maxRecDepth 100000 in
theorem zero_1 (a : Option Addr) (c : Nat) (sg : Int) (w : World) (s0 : 0 ≤ sg) (s1 : sg ≤ 255) (hsg : sg % 3 = 1) :
    Calls Yba.prog 3 #[.int .u8 sg, .slice a 0 c] w fun e w' => e = .returned (.bool true) ∧ Below w.heap.size w w' := by
  obtain ⟨i0, hi, hz0, hz1, hz2⟩ := info_parts info5
  have hs1 : (sg % 3 == 1) = true := by simp; omega
  have hs2 : (sg % 3 == 2) = false := by simp; omega
  clear hsg
  go_enter Yba.func3, Yba.ntmps3
  go_wp2_with (at_make; refine wpList_make_own _ rfl _ _ 22 rfl w.heap.size 5 i0 (.int .u8 0) 1 Yba.underlying22 hi hz0 hz1 _ _ _ 1 rfl rfl rfl ?_ ?_ ?_ ?_)
  · rw [hz2]; omega
  · unfold maxLen; omega
  · exact Nat.le_refl _
  intro w1 hown hgrow
  have HR : Hid (Rel w 0 0 [] w1) := rel_make hown hgrow
  clear hown hgrow
  have HO0 : Hid (w1.ownsRow w.heap.size 5 1 (.slice (some ⟨w.heap.size, 0, none⟩) 0 1) 0 (bytes [])) := HR.out.2
  have hsz1 := HR.out.1.size
  go_wp2_with (at_builtin; refine wpList_append_fits _ rfl (.tmp 22) (.tmp 23) 22 rfl w.heap.size 5 i0 1 Yba.underlying22 hi hz1 w.heap.size 0 1 (bytes []) rfl (HO0.out.alloc _) ⟨w1.heap.size, 0, none⟩ 1 1 [.int .u8 43] rfl rfl (cell_one_new _ _ _) ?_ (by omega) ?_) 
  · intro u hu; simp at hu; subst hu; rfl
  intro w2 hown2 hgrow2
  have HR2 : Hid (Rel w 0 1 [43] w2) := rel_push 43 43 rfl HR.out hsz1 hown2 hgrow2
  clear hown2 hgrow2 HO0 HR
  have HR := HR2
  clear HR2
  go_wp2_with fail
  have hcv := run_convert_bytes_back (P := Yba.prog) w2 22 9 5 ⟨w.heap.size, 0, none⟩ 1 [43] Yba.underlying22 Yba.underlying5 Yba.underlying9 (rel_cells HR.out)
  have hcv' : (convert 22 9 (.slice (some ⟨w.heap.size, 0, none⟩) 1 1)).run Yba.prog w2 = .ok (.string ⟨([43] : List UInt8).toArray⟩) w2 := hcv
  have HB : Hid (Below w.heap.size w w2) := HR.out.1
  have HP := fun w => parseInteger_any ⟨([43] : List UInt8).toArray⟩ w (by show (([43] : List UInt8).toArray).size ≤ maxLen; rw [List.size_toArray]; decide)
  simp only at HP
  obtain ⟨a1, a2⟩ : pv [43] = 0 ∧ good (body [43]) = false := bad1 (fun _ => 0) 0 (.inl rfl)
  rw [a1, a2] at HP
  have HC : Hid (∀ w, Calls Yba.prog 5 #[.string ⟨([43] : List UInt8).toArray⟩] w fun e w' => e = .returned (.tuple #[.int .i64 0, .bool false]) ∧ ∃ q, w' = w.drewN q) := HP
  clear HP a1 a2 hcv
  refine wp_loop_rounds 1 ?_
  rw [rounds_succ]
  go_wp2_with (go_at_call 5; refine (HC.out _).mono ?_; rintro e w' ⟨rfl, q, rfl⟩)
  go_ret
  exact ⟨rfl, below_drewN HB.out q⟩

set_option maxRecDepth 100000 in
theorem zero_2 (a : Option Addr) (c : Nat) (sg : Int) (w : World) (s0 : 0 ≤ sg) (s1 : sg ≤ 255) (hsg : sg % 3 = 2) :
    Calls Yba.prog 3 #[.int .u8 sg, .slice a 0 c] w fun e w' => e = .returned (.bool true) ∧ Below w.heap.size w w' := by
  obtain ⟨i0, hi, hz0, hz1, hz2⟩ := info_parts info5
  have hs1 : (sg % 3 == 1) = false := by simp; omega
  have hs2 : (sg % 3 == 2) = true := by simp; omega
  clear hsg
  go_enter Yba.func3, Yba.ntmps3
  go_wp2_with (at_make; refine wpList_make_own _ rfl _ _ 22 rfl w.heap.size 5 i0 (.int .u8 0) 1 Yba.underlying22 hi hz0 hz1 _ _ _ 1 rfl rfl rfl ?_ ?_ ?_ ?_)
  · rw [hz2]; omega
  · unfold maxLen; omega
  · exact Nat.le_refl _
  intro w1 hown hgrow
  have HR : Hid (Rel w 0 0 [] w1) := rel_make hown hgrow
  clear hown hgrow
  have HO0 : Hid (w1.ownsRow w.heap.size 5 1 (.slice (some ⟨w.heap.size, 0, none⟩) 0 1) 0 (bytes [])) := HR.out.2
  have hsz1 := HR.out.1.size
  go_wp2_with (at_builtin; refine wpList_append_fits _ rfl (.tmp 27) (.tmp 28) 22 rfl w.heap.size 5 i0 1 Yba.underlying22 hi hz1 w.heap.size 0 1 (bytes []) rfl (HO0.out.alloc _) ⟨w1.heap.size, 0, none⟩ 1 1 [.int .u8 45] rfl rfl (cell_one_new _ _ _) ?_ (by omega) ?_) 
  · intro u hu; simp at hu; subst hu; rfl
  intro w2 hown2 hgrow2
  have HR2 : Hid (Rel w 0 1 [45] w2) := rel_push 45 45 rfl HR.out hsz1 hown2 hgrow2
  clear hown2 hgrow2 HO0 HR
  have HR := HR2
  clear HR2
  go_wp2_with fail
  have hcv := run_convert_bytes_back (P := Yba.prog) w2 22 9 5 ⟨w.heap.size, 0, none⟩ 1 [45] Yba.underlying22 Yba.underlying5 Yba.underlying9 (rel_cells HR.out)
  have hcv' : (convert 22 9 (.slice (some ⟨w.heap.size, 0, none⟩) 1 1)).run Yba.prog w2 = .ok (.string ⟨([45] : List UInt8).toArray⟩) w2 := hcv
  have HB : Hid (Below w.heap.size w w2) := HR.out.1
  have HP := fun w => parseInteger_any ⟨([45] : List UInt8).toArray⟩ w (by show (([45] : List UInt8).toArray).size ≤ maxLen; rw [List.size_toArray]; decide)
  simp only at HP
  obtain ⟨a1, a2⟩ : pv [45] = 0 ∧ good (body [45]) = false := bad2 (fun _ => 0) 0 (.inl rfl)
  rw [a1, a2] at HP
  have HC : Hid (∀ w, Calls Yba.prog 5 #[.string ⟨([45] : List UInt8).toArray⟩] w fun e w' => e = .returned (.tuple #[.int .i64 0, .bool false]) ∧ ∃ q, w' = w.drewN q) := HP
  clear HP a1 a2 hcv
  refine wp_loop_rounds 1 ?_
  rw [rounds_succ]
  go_wp2_with (go_at_call 5; refine (HC.out _).mono ?_; rintro e w' ⟨rfl, q, rfl⟩)
  go_ret
  exact ⟨rfl, below_drewN HB.out q⟩

theorem walk_big (a : Option Addr) (n c : Nat) (sg : Int) (w : World) (hn : 1024 < n) :
    Calls Yba.prog 3 #[.int .u8 sg, .slice a n c] w fun e w' => e = .returned (.bool true) ∧ Below w.heap.size w w' := by
  have hn' : (1024 : Int) < (n : Int) := by omega
  go_enter Yba.func3, Yba.ntmps3
  go_wp2
  go_ret
  exact ⟨rfl, Below.refl _ _⟩
end Go.Proofs.Ybulkcgds.lawS4113CBuilt
