-- Written by hprint.py, a program of this session
import Derived.Test.YthepbgakfkiliaaRDoorRows
import Derived.Test.YthepbgakfkiliaaRDoorPFnTextColorPrintx3
import Derived.Test.YthepbgakfkiliaaRDoorPureFnTextColorPrint
import Derived.Test.YthepbgakfkiliaaRDoorOpen
import Derived.WalkKit
import Derived.ProofKit
import Derived.OpenShut
import Derived.ShutString
import Derived.ChangeOld
import Derived.Below
import Derived.SizedLaws
import Derived.Test.YthepbgakfkiliaaRDoorWSized
import Derived.Test.YthepbgakfkiliaaRDoorCards
import Derived.Test.YthepbgakfkiliaaRDoorTie
import Derived.LaidMore
import Derived.Stop.Joined
import Derived.SevenTiedAt
namespace Go.Proofs.YthepbgakfkiliaaRDoor.fnTextColorPrint
open Go.ChangeShapes Go.WideShapes Go.ChangeAt Go.RowKit Go.Proofs.YthepbgakfkiliaaRDoor Go.Proofs.YthepbgakfkiliaaRDoor.PFnTextColorPrint Go.Proofs.YthepbgakfkiliaaRDoorW.PrintWords Go.Proofs.YthepbgakfkiliaaRDoorW.PrintLast Go.Proofs.YthepbgakfkiliaaRDoorW.PrintMore
open Go.ChangeMaps (open_string shut_string)
open Go.Proofs.YthepbgakfkiliaaRDoor.Hand
set_option linter.unusedVariables false
theorem own : ownKnob Tryd.prog.godebug = none := by kernel_rfl
theorem laidOut : laidOutB Tryd.prog = true := by kernel_rfl
theorem opens1 : Open.Opens Tryd.prog 31 (Kd.slice 9 Kd.string) (fun x => (x.length * 16 ≤ 140737488351232 ∧ x.length ≤ maxLen ∧ ∀ yx ∈ x, yx.size ≤ 140737488351232)) :=
  (Open.opens_slice Tryd.underlying31 (by kernel_rfl) (Open.opens_string Tryd.underlying9 (by kernel_rfl)) (by kernel_rfl))
/-- The row's list. -/
noncomputable def laidL : List (String × DataW Unit) := Rows.fnTextColorPrintRow.laid
set_option maxRecDepth 100000 in
theorem door_met (os : Os) (args : Array Value) : laidMetH Tryd.prog laidL ((World.doorLaid Tryd.prog 400 os).forCall (fun _ _ => 0) ⟨#[], args, []⟩).memory :=
  laidMetH_of_parts3 (fuel := 8) (laidMet_of_run' 8 (by kernel_rfl) (by kernel_rfl)) (by kernel_rfl) (by kernel_rfl)
theorem of_laid {W : World} (h : laidMetH Tryd.prog laidL W) : LaidW W := by
  rw [MakeChecks.laidMetH_plain _ _ _ (by kernel_rfl)] at h
  exact LaidW.of_laid h (by unfold laidL; simp [Rows.fnTextColorPrintRow]; rfl)
set_option maxRecDepth 100000 in
theorem lifted (os : Os) (started : os.Started) (H : Type) (enc : TypeId × Value → H) :
    ReturnsInHanded {} Tryd.checked os 5 .any (fun w args => (Rows.fnTextColorPrintSpec.pre enc Tryd.prog Tryd.f5 Rows.fnTextColorPrintRow.domain false w args ∧ laidMetH Tryd.prog laidL w) ∧ sizedMet enc Tryd.prog Tryd.f5 (OpenSpec.ofChange Rows.fnTextColorPrintSpec) false w args) (Rows.fnTextColorPrintSpec.post enc Tryd.prog Tryd.f5 false true false false) := by
  refine returnsInHanded_of_change_and (C := Tryd.checked) (X := fun w _ => laidMetH Tryd.prog laidL w) (fun _ _ _ hh h => h.of_heap hh) own started (by kernel_rfl) Tryd.func5
    (ChangeSpec.witness_shaped (enc := enc) (C := Tryd.checked) (os := os) (X := fun w _ => laidMetH Tryd.prog laidL w) false (World.doorLaid Tryd.prog 400 os) #[.int .i64 0, .slice none 0 0] 8 rfl (World.shaped_of_RefB (by kernel_rfl) (by kernel_rfl)) (by kernel_rfl) (by kernel_rfl) (by kernel_rfl) (door_met os _)) ?_
  intro W base args ds gs before hval0 hW hcnd hsz0 hL _
  have hsz : (DataW.weightsEach Tryd.prog (Tryd.f5.params.toList ++ Rows.fnTextColorPrintSpec.plain.varTypes Tryd.prog) (ds ++ gs)).all (· ≤ reachBytes) = true := hsz0
  have hval : ∀ (j : Nat) t v, Tryd.f5.params[j]? = some t → args[j]? = some v → Value.okWide Tryd.prog W .any base t v := hval0
  have hW' := hW
  obtain ⟨p, q, hA0, hV, rfl, hfz, hnd⟩ := hW
  have hA : DataW.TrodAll enc Tryd.prog W 0 (fun _ => true) true Tryd.f5.params.toList args.toList ds p := hA0
  rw [Tryd.params5] at hA hval hsz
  obtain ⟨v0, vs0, d0, ds0, p0, q0, hargs, rfl, rfl, h0, r0⟩ := trodAll_cons hA
  obtain ⟨v1, vs1, d1, ds1, p1, q1, rfl, rfl, rfl, h1, r1⟩ := trodAll_cons r0
  obtain ⟨rfl, rfl, rfl⟩ := trodAll_nil r1
  obtain rfl : args = #[v0, v1] := by cases args; simp_all
  obtain ⟨rfl, rfl⟩ := trodVars_none hV
  obtain ⟨a0, rfl, rfl, rfl, w0⟩ := open_int Tryd.underlying3 (hval 0 3 v0 rfl rfl) h0
  have k1 := h1
  have lt1 : ∀ x ∈ p1, x.block < W.heap.size := by obtain ⟨m, hm⟩ := k1; exact DataW.trod_lt m _ _ _ hm
  obtain ⟨A1, c1, l1, rfl, hc1, hr1, w1⟩ := Open.open_row opens1 Tryd.underlying31 (hval 1 31 v1 rfl rfl) h1 (Open.param hsz (j := 1) (t := 31) rfl rfl)
  obtain ⟨k, h⟩ := Pure.FnTextColorPrint a0 l1 w0 w1
  clear hA0 hval0 hsz0 hsz
  refine (laws_FnTextColorPrint.calls k a0 A1 c1 l1 true W (of_laid hL) hr1 hc1 h).mono fun e W' hh => ?_
  obtain ⟨rfl, bel0⟩ := hh
  have bel : Below W.heap.size W W' := bel0
  exact ⟨_, rfl, _, _, _, [], _, [], hW', trodAll_mk1 (shut_bool Tryd.underlying4 _), (trodAll_cons_mk (shut_int Tryd.underlying3 w0) (trodAll_cons_mk (Below.trod laidOut (by kernel_rfl) (of_decide_eq_true (by kernel_rfl)) k1 bel lt1) trodAll_mk0)), rfl, bel.frame _, fun h => by cases h⟩
theorem over : Rows.fnTextColorPrintRow.holds Tryd.pinned (OpenSpec.ofChange Rows.fnTextColorPrintSpec) :=
  OpenClaim.holds_of_wide 5 Tryd.f5 rfl rfl rfl rfl rfl rfl rfl ⟨rfl, rfl, rfl, rfl, rfl⟩ rfl rfl rfl rfl rfl (by kernel_rfl) Tryd.func5 (by kernel_rfl)
    (of_decide_eq_true (by kernel_rfl)) (by unfold Func.isWrapper; first | (rw [if_pos (by decide +kernel)]; kernel_rfl) | (rw [if_neg (by decide +kernel)]; exact ⟨rfl, rfl⟩))
    (fun os started H enc _ => lifted os started H enc)
theorem proved : Rows.FnTextColorPrintSaid := over
#print axioms proved
theorem carded : Rows.FnTextColorPrintCardSaid :=
  Claim7.holds_tied_plain_at .later [] [.data, .data, .data] true (true, "6cf867de59291281f56fd11670687884b4e5cce1d7bc7646fc5459f68659b3b3") false
    over (fun _ h => by cases h) (by kernel_rfl) (fun _ h => by cases h) fnTextColorPrint_row_tie rfl ⟨rfl, rfl⟩ (by kernel_rfl) rfl
    (fun f fn hf hfn => by
      obtain rfl : f = 5 := Option.some.inj ((show Tryd.prog.funcNamed "pub-pinstripe/laws.FnTextColorPrint" = some 5 by kernel_rfl).symm.trans hf) |>.symm
      obtain rfl : fn = Tryd.f5 := (Option.some.inj (Tryd.func5.symm.trans hfn)).symm
      exact ⟨by kernel_rfl, fun j t ht => by
        rw [Tryd.params5] at ht
        have hm : t ∈ [3, 31] := by simpa using Array.mem_of_getElem? ht
        have hall : ([3, 31].all fun u => !Tryd.prog.wantsStandIn u) = true := by kernel_rfl
        exact (show Tryd.prog.wantsStandIn t = false by simpa using List.all_eq_true.1 hall t hm)⟩)
    (by kernel_rfl)
#print axioms carded
end Go.Proofs.YthepbgakfkiliaaRDoor.fnTextColorPrint
namespace Go.Proofs.YthepbgakfkiliaaRDoor
/-- The row, under a short name, for the claim. -/
theorem fnTextColorPrint_holds : Rows.FnTextColorPrintCardSaid := fnTextColorPrint.carded
end Go.Proofs.YthepbgakfkiliaaRDoor
