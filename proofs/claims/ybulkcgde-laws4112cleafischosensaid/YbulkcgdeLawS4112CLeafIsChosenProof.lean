/-
  The proof of 'Rows.LawS4112CLeafIsChosenSaid': the frame after the kit's shell for a law over a slice, turned to a slice of strings; the walks lie in YbulkcgdeChosenWalk.lean.
-/
import Derived.Test.YbulkcgdeRows
import Derived.Test.YbulkcgdeChosenWalk
import Derived.WalkKit
import Derived.ProofKit
import Derived.OpenShut
import Derived.ShutString
import Derived.SliceStrings
import Derived.ChangeOld
import Derived.Below
namespace Go.Proofs.Ybulkcgde.lawS4112CLeafIsChosen
open Go.ChangeShapes Go.WideShapes Go.ChangeAt Go.RowKit
open Go.ChangeMaps (open_string shut_string)
set_option linter.unusedVariables false

theorem own : ownKnob Yba.prog.godebug = none := by kernel_rfl
theorem laidOut : laidOutB Yba.prog = true := by kernel_rfl

/-- WHAT THE WALK IS TOLD OF THE SLICE OF STRINGS: it is nil; or it leads to a row of cells that hold strings. -/
def IsRow (w : World) (a : Option Addr) (len cap : Nat) (ss : List ByteArray) : Prop :=
  (a = none ∧ len = 0 ∧ cap = 0 ∧ ss = []) ∨
  ∃ x, a = some x ∧ len ≤ cap ∧ cap ≤ maxLen ∧ ss.length = cap ∧ ∀ i, i < ss.length → w.cell? (x.add i) = some (.string (ss.getD i ByteArray.empty))

theorem block_lt {w : World} {a : Addr} {v : Value} (h : w.cell? a = some v) : a.block < w.heap.size := by
  unfold World.cell? at h
  by_cases hb : a.block < w.heap.size
  · exact hb
  · simp [Array.getElem?_eq_none (Nat.le_of_not_lt hb)] at h

theorem walk (a0 : Option Addr) (len0 cap0 : Nat) (z0 : List ByteArray) (sel : Int) (w : World) (w1 : (Lit.int .u64 sel).wf = true) (w0 : IsRow w a0 len0 cap0 z0) :
    Calls Yba.prog 3 #[.slice a0 len0 cap0, .int .u64 sel] w fun e w' => e = .returned (.bool true) ∧ Below w.heap.size w w' := by
  obtain ⟨s0, s1⟩ := bounds_u64 w1
  by_cases hbig : 1024 < len0
  · exact walk_big a0 len0 cap0 sel w hbig
  by_cases hz : len0 = 0
  · subst hz
    exact walk_zero a0 cap0 sel w s0 (by omega)
  rcases w0 with ⟨_, h, _⟩ | ⟨⟨b, off, spot⟩, rfl, hl, _, hlen, hcell⟩
  · exact absurd h hz
  have hspot : spot = none := by simpa [Addr.add] using World.cell?_spot (hcell 0 (by omega))
  subst hspot
  have hb : b < w.heap.size := by
    have := block_lt (hcell 0 (by omega))
    rw [Go.WideShapes.add_plain] at this
    exact this
  have hc : Hid (∀ i, i < len0 → w.cell? ⟨b, off + i, none⟩ = some (.string (z0.getD i ByteArray.empty))) := fun i hi => by
    have := hcell i (by omega)
    rw [Go.WideShapes.add_plain] at this
    exact this
  have hpos : (0 : Int) < (len0 : Int) + 1 := by omega
  have h1 := Int.emod_nonneg sel (Int.ne_of_gt hpos)
  have h2 := Int.emod_lt_of_pos sel hpos
  by_cases hr : sel % ((len0 : Int) + 1) = 0
  · exact walk_neg b off len0 cap0 sel (fun i => z0.getD i ByteArray.empty) w (by omega) (by omega) s0 (by omega) hb hr hc
  · exact walk_pos b off len0 cap0 sel (fun i => z0.getD i ByteArray.empty) w (by omega) (by omega) s0 (by omega) hb (sel % ((len0 : Int) + 1) - 1).toNat (by omega) (by omega) hc

/-! ### THE ROW's STEP: WRITTEN OUT: LEAVE IT -/
set_option maxRecDepth 100000 in
theorem lifted (os : Os) (started : os.Started) (H : Type) (enc : TypeId × Value → H) :
    ReturnsInHanded {} Yba.checked os 3 .any (Rows.lawS4112CLeafIsChosenSpec.pre6 enc Yba.prog Yba.f3 Rows.lawS4112CLeafIsChosenRow.domain false) (Rows.lawS4112CLeafIsChosenSpec.post enc Yba.prog Yba.f3 false true false false) := by
  refine returnsInHanded_of_change (C := Yba.checked) own started (by kernel_rfl) Yba.func3
    (ChangeSpec.witness6 (enc := enc) (C := Yba.checked) false ⟨#[], #[.slice none 0 0, .int .u64 0], []⟩ 8 (by kernel_rfl) (by kernel_rfl) (by kernel_rfl) (by kernel_rfl)) ?_
  intro W base args ds gs before hval0 hW hcnd _
  have hval : ∀ (j : Nat) t v, Yba.f3.params[j]? = some t → args[j]? = some v → Value.okWide Yba.prog W .any base t v := hval0
  have hW' := hW
  obtain ⟨p, q, hA0, hV, rfl, hfz, hnd⟩ := hW
  have hA : DataW.TrodAll enc Yba.prog W 0 (fun _ => true) true Yba.f3.params.toList args.toList ds p := hA0
  rw [Yba.params3] at hA hval
  obtain ⟨v0, vs0, d0, ds0, p0, q0, hargs, rfl, rfl, h0, r0⟩ := trodAll_cons hA
  obtain ⟨v1, vs1, d1, ds1, p1, q1, rfl, rfl, rfl, h1, r1⟩ := trodAll_cons r0
  obtain ⟨rfl, rfl, rfl⟩ := trodAll_nil r1
  obtain rfl : args = #[v0, v1] := by cases args; simp_all
  obtain ⟨rfl, rfl⟩ := trodVars_none hV
  obtain ⟨a1, rfl, rfl, rfl, w1⟩ := open_int Yba.underlying23 (hval 1 23 v1 rfl rfl) h1
  obtain ⟨a0, len0, cap0, rfl⟩ := okWide_slice Yba.underlying22 (hval 0 22 v0 rfl rfl)
  have k0 := h0
  have lt0 : ∀ x ∈ p0, x.block < W.heap.size := by obtain ⟨m, hm⟩ := k0; exact DataW.trod_lt m _ _ _ hm
  obtain ⟨z0, w0⟩ : ∃ ss, IsRow W a0 len0 cap0 ss := by
    obtain ⟨fuel, hf⟩ := h0
    rcases open_strings Yba.underlying22 Yba.underlying9 (by kernel_rfl) hf with ⟨hcs, _⟩ | ⟨x, l, c, ss, hcs, _, hl, hm, hz, _, hcell, hws⟩
    · simp [Value.cells] at hcs
      obtain ⟨rfl, rfl, rfl⟩ := hcs
      exact ⟨[], .inl ⟨rfl, rfl, rfl, rfl⟩⟩
    · simp [Value.cells] at hcs
      obtain ⟨rfl, rfl, rfl⟩ := hcs
      exact ⟨ss, .inr ⟨_, rfl, hl, hm, by simpa using hz, hcell⟩⟩
  clear hA0 hval0
  refine (walk a0 len0 cap0 z0 a1 W w1 w0).mono fun e W' ⟨he, bel⟩ => ?_
  subst he
  exact ⟨_, rfl, _, _, _, [], _, [], hW', trodAll_mk1 (shut_bool Yba.underlying4 _), (trodAll_cons_mk (Below.trod laidOut (by kernel_rfl) (of_decide_eq_true (by kernel_rfl)) k0 bel lt0) (trodAll_cons_mk (shut_int Yba.underlying23 w1) trodAll_mk0)), rfl, bel.frame _, fun h => by cases h⟩

theorem over : Rows.lawS4112CLeafIsChosenRow.holds Yba.pinned (OpenSpec.ofChange Rows.lawS4112CLeafIsChosenSpec) :=
  OpenClaim.holds_of_wide 3 Yba.f3 rfl rfl rfl rfl rfl rfl rfl ⟨rfl, rfl, rfl, rfl, rfl⟩ rfl rfl rfl rfl rfl (by kernel_rfl) Yba.func3 (by kernel_rfl)
    (of_decide_eq_true (by kernel_rfl)) (by unfold Func.isWrapper; first | (rw [if_pos (by decide +kernel)]; kernel_rfl) | (rw [if_neg (by decide +kernel)]; exact ⟨rfl, rfl⟩))
    (fun os started H enc _ => lifted os started H enc)

/-- ████ THE STATEMENT ████ -/
theorem proved : Rows.LawS4112CLeafIsChosenSaid := over
#print axioms proved
end Go.Proofs.Ybulkcgde.lawS4112CLeafIsChosen
