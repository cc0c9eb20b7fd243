/-
  The proof of 'Rows.LawS4113CAnySaid': the frame is the kit's shell for this function; the walks lie in YbulkcgdsAnyWalk.lean.
-/
import Derived.Test.YbulkcgdsRows
import Derived.Test.YbulkcgdsAnyWalk
import Derived.WalkKit
import Derived.ProofKit
import Derived.OpenShut
import Derived.ShutString
namespace Go.Proofs.Ybulkcgds.lawS4113CAny
open Go.ChangeShapes Go.WideShapes Go.ChangeAt Go.RowKit
open Go.ChangeMaps (open_string shut_string)
set_option linter.unusedVariables false      -- a walk need not use every 'w<i>' (that an integer argument fits its kind)

theorem own : ownKnob Yba.prog.godebug = none := by kernel_rfl

theorem grown_drewN {W w' : World} (n : Nat) (h : Grown W w') : Grown W (w'.drewN n) := by
  induction n generalizing w' with
  | zero => exact h
  | succ n ih => exact ih h.drew

/-! ### STEP 1: THE WALK: the Go text returns true. 'Grown w w'': the world has at most new blocks (Derived/RowKit3.lean). Part the cases AHEAD of 'go_enter' where a test parts the walk; take each callee by a contract of your own. -/
theorem walk (a0 : ByteArray) (w0 : a0.size ≤ maxLen) (w : World) :
    Calls Yba.prog 4 #[.string a0] w fun e w' => e = .returned (.bool true) ∧ Grown w w' := by
  suffices H : Calls Yba.prog 4 #[.string a0] w fun e w' => e = .returned (.bool true) ∧ ∃ q, w' = w.drewN q from
    H.mono fun e w' ⟨h1, q, h2⟩ => ⟨h1, by rw [h2]; exact grown_drewN q (Grown.refl _)⟩
  by_cases hbig : 1024 < a0.size
  · exact walk_big a0 w hbig
  by_cases h0 : a0.size = 0
  · exact walk_empty a0 w h0
  have hp : 0 < a0.size := by omega
  obtain ⟨r, hl⟩ := head_list a0 hp
  by_cases hc : (a0[0].toNat : Int) = 45
  · have e : a0[0] = 45 := UInt8.toNat_inj.1 (by have : (45 : UInt8).toNat = 45 := rfl; omega)
    have hb : Hid (body a0.data.toList = B1 a0) := show body a0.data.toList = B1 a0 by unfold B1; rw [hl, e]; rfl
    have hng : Hid (neg a0.data.toList = true) := show neg a0.data.toList = true by rw [hl, e]; rfl
    have hc' : ((a0[0].toNat : Int) == 45) = true := by simpa using hc
    by_cases hi : 1 < a0.size ∧ a0.size ≤ 10
    · exact minus_in a0 w hp hi.1 hi.2 hc' hb hng
    · exact minus_out a0 w hp (by omega) (by omega) hc' hb
  have hc' : ((a0[0].toNat : Int) == 45) = false := by simpa using hc
  by_cases hd : (a0[0].toNat : Int) = 43
  · have e : a0[0] = 43 := UInt8.toNat_inj.1 (by have : (43 : UInt8).toNat = 43 := rfl; omega)
    have hb : Hid (body a0.data.toList = B1 a0) := show body a0.data.toList = B1 a0 by unfold B1; rw [hl, e]; rfl
    have hng : Hid (neg a0.data.toList = false) := show neg a0.data.toList = false by rw [hl, e]; rfl
    have hd' : ((a0[0].toNat : Int) == 43) = true := by simpa using hd
    by_cases hi : 1 < a0.size ∧ a0.size ≤ 10
    · exact plus_in a0 w hp hi.1 hi.2 hd' hc' hb hng
    · exact plus_out a0 w hp (by omega) (by omega) hd' hc' hb
  · have n1 : ¬ a0[0] = 43 := fun e => hd (by rw [e]; rfl)
    have n2 : ¬ a0[0] = 45 := fun e => hc (by rw [e]; rfl)
    have hb : Hid (body a0.data.toList = B0 a0) := show body a0.data.toList = B0 a0 by unfold B0; rw [hl]; simp [body, n1, n2]
    have hng : Hid (neg a0.data.toList = false) := show neg a0.data.toList = false by rw [hl]; simp [neg, n2]
    have hd' : ((a0[0].toNat : Int) == 43) = false := by simpa using hd
    by_cases hi : a0.size ≤ 9
    · exact bare_in a0 w hp hp hi hd' hc' hb hng
    · exact bare_out a0 w hp (by omega) (by omega) hd' hc' hb

/-! ### THE ROW's STEP: WRITTEN OUT: LEAVE IT -/
set_option maxRecDepth 100000 in
theorem lifted (os : Os) (started : os.Started) (H : Type) (enc : TypeId × Value → H) :
    ReturnsInHanded {} Yba.checked os 4 .any (Rows.lawS4113CAnySpec.pre6 enc Yba.prog Yba.f4 Rows.lawS4113CAnyRow.domain false) (Rows.lawS4113CAnySpec.post enc Yba.prog Yba.f4 false true false false) := by
  refine returnsInHanded_of_change (C := Yba.checked) own started (by kernel_rfl) Yba.func4
    (ChangeSpec.witness6 (enc := enc) (C := Yba.checked) false ⟨#[], #[.string ByteArray.empty], []⟩ 8 (by kernel_rfl) (by kernel_rfl) (by kernel_rfl) (by kernel_rfl)) ?_
  intro W base args ds gs before hval0 hW hcnd _
  have hval : ∀ (j : Nat) t v, Yba.f4.params[j]? = some t → args[j]? = some v → Value.okWide Yba.prog W .any base t v := hval0
  have hW' := hW
  obtain ⟨p, q, hA0, hV, rfl, hfz, hnd⟩ := hW
  have hA : DataW.TrodAll enc Yba.prog W 0 (fun _ => true) true Yba.f4.params.toList args.toList ds p := hA0
  rw [Yba.params4] at hA hval
  obtain ⟨v0, vs0, d0, ds0, p0, q0, hargs, rfl, rfl, h0, r0⟩ := trodAll_cons hA
  obtain ⟨rfl, rfl, rfl⟩ := trodAll_nil r0
  obtain rfl : args = #[v0] := by cases args; simp_all
  obtain ⟨rfl, rfl⟩ := trodVars_none hV
  obtain ⟨a0, rfl, rfl, rfl, w0⟩ := open_string Yba.underlying9 (hval 0 9 v0 rfl rfl) h0
  clear hA0 hval0
  simp only [List.append_nil] at hW'
  refine (walk a0 w0 W).mono fun e W' ⟨he, hg⟩ => ?_
  subst he
  exact ⟨_, rfl, post_of_same (pa := []) (pv := []) hW' (fun _ _ _ => (trodAll_cons_mk (shut_bool Yba.underlying4 _) trodAll_mk0)) (fun sp _ => (trodAll_cons_mk (shut_string Yba.underlying9 w0) trodAll_mk0)) (fun _ _ => rfl) rfl
    (hg.frame _) hg.2.1 (ok_one (by kernel_rfl) rfl (okWide_bool_mk Yba.underlying4 _))⟩

theorem over : Rows.lawS4113CAnyRow.holds Yba.pinned (OpenSpec.ofChange Rows.lawS4113CAnySpec) :=
  OpenClaim.holds_of_wide 4 Yba.f4 rfl rfl rfl rfl rfl rfl rfl ⟨rfl, rfl, rfl, rfl, rfl⟩ rfl rfl rfl rfl rfl (by kernel_rfl) Yba.func4 (by kernel_rfl)
    (of_decide_eq_true (by kernel_rfl)) (by unfold Func.isWrapper; first | (rw [if_pos (by decide +kernel)]; kernel_rfl) | (rw [if_neg (by decide +kernel)]; exact ⟨rfl, rfl⟩))
    (fun os started H enc _ => lifted os started H enc)

/-- ████ THE STATEMENT ████ -/
theorem proved : Rows.LawS4113CAnySaid :=
  over
#print axioms proved
end Go.Proofs.Ybulkcgds.lawS4113CAny
