/-
  The row of 'ridgewire.LawS4113BSigned', and its tied card: the variable 'powersOfTen' reads as the row lists it; the tie is given (YbulkcgdsDoorTie.lean).
-/
import Derived.Test.YbulkcgdsDoorRows
import Derived.Test.YbulkcgdsDoorCards
import Derived.Test.YbulkcgdsDoorTie
import Derived.Test.YbulkcgdsDoorSignedWalk
import Derived.WalkKit
import Derived.ProofKit
import Derived.OpenShut
import Derived.ShutString
import Derived.ChangeOld
import Derived.Below
import Derived.ChangeVars
import Derived.LaidMore
import Derived.Lib.LaidTab
import Derived.Stop.Joined
import Derived.SevenTiedAt
import Derived.Deep.RegionHeld
namespace Go.Proofs.YbulkcgdsDoor
open Go.ChangeShapes Go.WideShapes Go.ChangeAt Go.RowKit
set_option linter.unusedVariables false

theorem own : ownKnob Ybad.prog.godebug = none := by kernel_rfl
theorem laidOut : laidOutB Ybad.prog = true := by kernel_rfl
/-- The listed variable's name. -/
abbrev nm : String := Rows.lawS4113BSignedSpec.vars.headD "x"
theorem pow : Ybad.prog.globalNamed nm = some 0 := by kernel_rfl
theorem powType : (Ybad.prog.globals[0]?).map (·.type) = some 33 := by kernel_rfl
def zs : List Int := [1, 10, 100, 1000, 10000, 100000, 1000000, 10000000, 100000000, 1000000000, 10000000000, 100000000000, 1000000000000, 10000000000000, 100000000000000, 1000000000000000, 10000000000000000, 100000000000000000, 1000000000000000000, 10000000000000000000]
theorem zs_pow : ∀ d : Fin 20, zs.getD d.val 0 = ((10 ^ d.val : Nat) : Int) := by decide
def cells20 : Array Value := (zs.map fun z => Value.int .u64 z).toArray

theorem laid_is : Rows.lawS4113BSignedRow.laid = [(nm, Lib.tabData .u64 zs)] := by rfl

/-- The door's own heap meets the condition. -/
theorem door_met (os : Os) (args : Array Value) : laidMetH Ybad.prog Rows.lawS4113BSignedRow.laid ((World.doorLaid Ybad.prog 600 os).forCall (fun _ _ => 0) ⟨#[], args, []⟩).memory :=
  laidMetH_of_parts3 (fuel := 8) (laidMet_of_run' 8 (by kernel_rfl) (by kernel_rfl)) (by kernel_rfl) (by kernel_rfl)

theorem tab_of {W : World} (h : laidMetH Ybad.prog Rows.lawS4113BSignedRow.laid W) : Lib.TabIs Ybad.prog W nm .u64 zs := by
  rw [MakeChecks.laidMetH_plain _ _ _ (by kernel_rfl), laid_is] at h
  exact Lib.tabIs_of_head pow powType Ybad.underlying33 Ybad.underlying23 (by kernel_rfl) (by kernel_rfl) h
theorem tab_cells {W : World} (h : Lib.TabIs Ybad.prog W nm .u64 zs) : Tab W := fun d hd => by
  rw [h.cell pow d hd]
  exact congrArg (fun x => some (Value.int .u64 x)) (zs_pow ⟨d, hd⟩)

theorem reads_table {H : Type} (enc : TypeId × Value → H) (W : World) (sp : Nat → Bool) : DataW.trod enc Ybad.prog W 0 sp true 3 33 cells20.toList = some (Lib.tabData .u64 zs, []) := by kernel_rfl

/-- WHAT THE WALK IS TOLD OF A SLICE OF BYTES THAT CAME IN. -/
theorem src_of {W : World} {a : Option Addr} {len cap : Nat} {zz : List Int} (h : (a = none ∧ len = 0) ∨ ∃ x, a = some x ∧ len ≤ zz.length ∧ ∀ i, i < zz.length → W.cell? (x.add i) = some (.int .u8 (zz.getD i 0))) : Src W a len (fun i => zz.getD i 0) := by
  rcases h with ⟨_, h⟩ | ⟨x, rfl, hl, hc⟩
  · exact .inl h
  · by_cases h0 : len = 0
    · exact .inl h0
    · obtain ⟨b, off, rfl, hcl⟩ := ints_at hc (by omega)
      exact .inr ⟨b, off, rfl, World.block_lt_of_cell? W ⟨b, off + 0, none⟩ (hcl 0 (by omega)), fun i hi => hcl i (by omega)⟩

set_option maxRecDepth 100000 in
theorem lifted (os : Os) (started : os.Started) (H : Type) (enc : TypeId × Value → H) :
    ReturnsInHanded {} Ybad.checked os 5 .any (fun w args => (Rows.lawS4113BSignedSpec.pre enc Ybad.prog Ybad.f5 [] false w args ∧ laidMetH Ybad.prog Rows.lawS4113BSignedRow.laid w) ∧ sizedMet enc Ybad.prog Ybad.f5 (OpenSpec.ofChange Rows.lawS4113BSignedSpec) false w args)
      (Rows.lawS4113BSignedSpec.post enc Ybad.prog Ybad.f5 false true false false) := by
  refine returnsInHanded_of_change_and (C := Ybad.checked) (X := fun w _ => laidMetH Ybad.prog Rows.lawS4113BSignedRow.laid w) (fun _ _ _ hh h => h.of_heap hh) own started (by kernel_rfl) Ybad.func5
    (ChangeSpec.witness_shaped (enc := enc) (C := Ybad.checked) (os := os) (X := fun w _ => laidMetH Ybad.prog Rows.lawS4113BSignedRow.laid w) false (World.doorLaid Ybad.prog 600 os) #[.slice none 0 0, .int .i64 0] 8 rfl (World.shaped_of_RefB (by kernel_rfl) (by kernel_rfl)) (by kernel_rfl) (by kernel_rfl) (by kernel_rfl) (door_met os _)) ?_
  intro W base args ds gs before hval0 hW _ _ hL _
  have hval : ∀ (j : Nat) t v, Ybad.f5.params[j]? = some t → args[j]? = some v → Value.okWide Ybad.prog W .any base t v := hval0
  have hW' := hW
  obtain ⟨p, q, hA0, hV0, rfl, hfz, hnd⟩ := hW
  have hA : DataW.TrodAll enc Ybad.prog W 0 (fun _ => true) true Ybad.f5.params.toList args.toList ds p := hA0
  have hV : DataW.TrodVars enc Ybad.prog W (fun _ => true) [nm] gs q := hV0
  rw [Ybad.params5] at hA hval
  obtain ⟨v0, vs0, d0, ds0, p0, q0, hargs, rfl, rfl, h0, r0⟩ := trodAll_cons hA
  obtain ⟨v1, vs1, d1, ds1, p1, q1, rfl, rfl, rfl, h1, r1⟩ := trodAll_cons r0
  obtain ⟨rfl, rfl, rfl⟩ := trodAll_nil r1
  obtain rfl : args = #[v0, v1] := by cases args; simp_all
  have hT := tab_of hL
  obtain ⟨g, t, cs, fuel, d, p', rfl, hg, ht, hvar, hd, rfl⟩ := trodVars_one hV
  obtain rfl := Option.some.inj (pow.symm.trans hg)
  obtain rfl := Option.some.inj (powType.symm.trans ht)
  obtain rfl : cs = cells20 := Option.some.inj (hvar.symm.trans hT)
  obtain ⟨rfl, rfl⟩ := DataW.Trod.unique (v := .agg cells20) ⟨fuel, hd⟩ ⟨3, reads_table enc W _⟩
  obtain ⟨a1, rfl, rfl, rfl, w1⟩ := open_int Ybad.underlying2 (hval 1 2 v1 rfl rfl) h1
  obtain ⟨a0, len0, cap0, rfl⟩ := okWide_slice Ybad.underlying22 (hval 0 22 v0 rfl rfl)
  have k0 := h0
  have lt0 : ∀ x ∈ p0, x.block < W.heap.size := by obtain ⟨m, hm⟩ := k0; exact DataW.trod_lt m _ _ _ hm
  obtain ⟨z0, w0⟩ : ∃ z, Src W a0 len0 z := by
    obtain ⟨fuel, hf⟩ := h0
    rcases open_ints Ybad.underlying22 Ybad.underlying5 (by kernel_rfl) hf with ⟨hcs, _⟩ | ⟨x, l, c, zz, hcs, _, hl, hm, hz, _, hcell, hwz⟩
    · simp [Value.cells] at hcs
      obtain ⟨rfl, rfl, rfl⟩ := hcs
      exact ⟨_, src_of (cap := 0) (zz := []) (.inl ⟨rfl, rfl⟩)⟩
    · simp [Value.cells] at hcs
      obtain ⟨rfl, rfl, rfl⟩ := hcs
      exact ⟨_, src_of (cap := 0) (zz := zz) (.inr ⟨_, rfl, by have : zz.length = cap0 := by simpa using hz
                                                               omega, hcell⟩)⟩
  clear hA0 hV0 hval0
  have hTab := tab_cells hT
  have hsz : 0 < W.heap.size := World.block_lt_of_cell? W ⟨0, 0, none⟩ (hTab 0 (by decide))
  obtain ⟨b1, b2⟩ := bounds_i64 w1
  refine (signed_any a0 len0 cap0 a1 z0 W b1 b2 w0 hTab hsz).mono fun e W' ⟨he, bel⟩ => ?_
  subst he
  have hvars : ∀ sp : Nat → Bool, DataW.TrodVars enc Ybad.prog W' sp [nm] [Lib.tabData .u64 zs] (MemPlace.row ⟨0, 0, none⟩ cells20.size ++ []) :=
    fun sp => trodVars_mk1 hg ht (var?_below bel hg hsz hvar) (reads_table enc W' sp)
  exact ⟨_, rfl, _, _, _, [], _, (MemPlace.row ⟨0, 0, none⟩ cells20.size ++ []), hW', trodAll_mk1 (shut_bool Ybad.underlying4 _), (trodAll_cons_mk (Below.trod laidOut (by kernel_rfl) (of_decide_eq_true (by kernel_rfl)) k0 bel lt0) (trodAll_cons_mk (shut_int Ybad.underlying2 w1) trodAll_mk0)), hvars _, bel.frame _, fun h => by cases h⟩

theorem signed_holds : Rows.LawS4113BSignedSaid :=
  OpenClaim.holds_of_wide 5 Ybad.f5 rfl rfl rfl rfl rfl rfl rfl ⟨rfl, rfl, rfl, rfl, rfl⟩ rfl rfl rfl rfl rfl (by kernel_rfl) Ybad.func5 (by kernel_rfl)
    (of_decide_eq_true (by kernel_rfl)) (by unfold Func.isWrapper; first | (rw [if_pos (by decide +kernel)]; kernel_rfl) | (rw [if_neg (by decide +kernel)]; exact ⟨rfl, rfl⟩))
    (fun os started H enc _ => lifted os started H enc)

/-- THE TIED CARD. -/
theorem card_holds : Rows.LawS4113BSignedCardSaid :=
  Claim7.holds_tied_plain_at .later [] [.called] true _ false
    signed_holds (fun _ h => by cases h) (by kernel_rfl) (fun _ h => by cases h) lawS4113BSigned_row_tie rfl ⟨rfl, rfl⟩ (by kernel_rfl) rfl
    (fun f fn hf hfn => by
      obtain rfl : f = 5 := Option.some.inj ((show Ybad.prog.funcNamed Rows.lawS4113BSignedRow.func = some 5 by kernel_rfl).symm.trans hf) |>.symm
      obtain rfl : fn = Ybad.f5 := (Option.some.inj (Ybad.func5.symm.trans hfn)).symm
      exact ⟨by kernel_rfl, fun j t ht => by
        rw [Ybad.params5] at ht
        have hm : t ∈ [22, 2] := by simpa using Array.mem_of_getElem? ht
        have hall : ([22, 2].all fun u => !Ybad.prog.wantsStandIn u) = true := by kernel_rfl
        exact (show Ybad.prog.wantsStandIn t = false by simpa using List.all_eq_true.1 hall t hm)⟩)
    (by kernel_rfl)
#print axioms card_holds
end Go.Proofs.YbulkcgdsDoor
