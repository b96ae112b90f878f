-- Written by hprint.py, a program of this session
import Derived.Test.YthepbgakfkiliaaRDoorRows
import Derived.Test.YthepbgakfkiliaaRDoorPFnTextEscapex5
import Derived.Test.YthepbgakfkiliaaRDoorPureFnTextEscape
import Derived.Test.YthepbgakfkiliaaRDoorOpen
import Derived.WalkKit
import Derived.ProofKit
import Derived.OpenShut
import Derived.ShutString
import Derived.ChangeOld
import Derived.Below
import Derived.SizedLaws
import Derived.Test.YthepbgakfkiliaaRDoorWSized
import Derived.Test.YthepbgakfkiliaaRDoorCards
import Derived.Test.YthepbgakfkiliaaRDoorTie
import Derived.LaidMore
import Derived.Stop.Joined
import Derived.SevenTiedAt
namespace Go.Proofs.YthepbgakfkiliaaRDoor.fnTextEscape
open Go.ChangeShapes Go.WideShapes Go.ChangeAt Go.RowKit Go.Proofs.YthepbgakfkiliaaRDoor Go.Proofs.YthepbgakfkiliaaRDoor.PFnTextEscape Go.Proofs.YthepbgakfkiliaaRDoorW.PrintWords Go.Proofs.YthepbgakfkiliaaRDoorW.PrintLast Go.Proofs.YthepbgakfkiliaaRDoorW.PrintMore
open Go.ChangeMaps (open_string shut_string)
open Go.Proofs.YthepbgakfkiliaaRDoor.Hand
set_option linter.unusedVariables false
theorem own : ownKnob Tryd.prog.godebug = none := by kernel_rfl
theorem laidOut : laidOutB Tryd.prog = true := by kernel_rfl
theorem opens0 : Open.Opens Tryd.prog 22 (Kd.slice 43 k43) (fun x => (x.length * 24 ≤ 140737488351232 ∧ x.length ≤ maxLen ∧ ∀ yx ∈ x, ((Lit.int .i64 yx.f0).wf = true ∧ (yx.f1.size ≤ 140737488351232)))) :=
  (Open.opens_slice Tryd.underlying22 (by kernel_rfl) (Open.opens_struct Tryd.underlying43 (by kernel_rfl) (Open.opens_fields (n := 1) (Open.opens_int Tryd.underlying3 (by kernel_rfl)) rfl (by kernel_rfl) (Open.opens_field (n := 1) (Open.opens_string Tryd.underlying9 (by kernel_rfl)) rfl (by kernel_rfl))) (fun x : S43 => (x.f0, x.f1)) (fun p => ⟨p.1, p.2⟩) (fun _ => rfl)) (by kernel_rfl))
/-- The row's list. -/
noncomputable def laidL : List (String × DataW Unit) := Rows.fnTextEscapeRow.laid
set_option maxRecDepth 100000 in
theorem door_met (os : Os) (args : Array Value) : laidMetH Tryd.prog laidL ((World.doorLaid Tryd.prog 400 os).forCall (fun _ _ => 0) ⟨#[], args, []⟩).memory :=
  laidMetH_of_parts3 (fuel := 8) (laidMet_of_run' 8 (by kernel_rfl) (by kernel_rfl)) (by kernel_rfl) (by kernel_rfl)
theorem of_laid {W : World} (h : laidMetH Tryd.prog laidL W) : LaidW W := by
  rw [MakeChecks.laidMetH_plain _ _ _ (by kernel_rfl)] at h
  exact LaidW.of_laid h (by unfold laidL; simp [Rows.fnTextEscapeRow]; rfl)
set_option maxRecDepth 100000 in
theorem lifted (os : Os) (started : os.Started) (H : Type) (enc : TypeId × Value → H) :
    ReturnsInHanded {} Tryd.checked os 3 .any (fun w args => (Rows.fnTextEscapeSpec.pre enc Tryd.prog Tryd.f3 Rows.fnTextEscapeRow.domain false w args ∧ laidMetH Tryd.prog laidL w) ∧ sizedMet enc Tryd.prog Tryd.f3 (OpenSpec.ofChange Rows.fnTextEscapeSpec) false w args) (Rows.fnTextEscapeSpec.post enc Tryd.prog Tryd.f3 false true false false) := by
  refine returnsInHanded_of_change_and (C := Tryd.checked) (X := fun w _ => laidMetH Tryd.prog laidL w) (fun _ _ _ hh h => h.of_heap hh) own started (by kernel_rfl) Tryd.func3
    (ChangeSpec.witness_shaped (enc := enc) (C := Tryd.checked) (os := os) (X := fun w _ => laidMetH Tryd.prog laidL w) false (World.doorLaid Tryd.prog 400 os) #[.slice none 0 0, .int .i64 0] 8 rfl (World.shaped_of_RefB (by kernel_rfl) (by kernel_rfl)) (by kernel_rfl) (by kernel_rfl) (by kernel_rfl) (door_met os _)) ?_
  intro W base args ds gs before hval0 hW hcnd hsz0 hL _
  have hsz : (DataW.weightsEach Tryd.prog (Tryd.f3.params.toList ++ Rows.fnTextEscapeSpec.plain.varTypes Tryd.prog) (ds ++ gs)).all (· ≤ reachBytes) = true := hsz0
  have hval : ∀ (j : Nat) t v, Tryd.f3.params[j]? = some t → args[j]? = some v → Value.okWide Tryd.prog W .any base t v := hval0
  have hW' := hW
  obtain ⟨p, q, hA0, hV, rfl, hfz, hnd⟩ := hW
  have hA : DataW.TrodAll enc Tryd.prog W 0 (fun _ => true) true Tryd.f3.params.toList args.toList ds p := hA0
  rw [Tryd.params3] at hA hval hsz
  obtain ⟨v0, vs0, d0, ds0, p0, q0, hargs, rfl, rfl, h0, r0⟩ := trodAll_cons hA
  obtain ⟨v1, vs1, d1, ds1, p1, q1, rfl, rfl, rfl, h1, r1⟩ := trodAll_cons r0
  obtain ⟨rfl, rfl, rfl⟩ := trodAll_nil r1
  obtain rfl : args = #[v0, v1] := by cases args; simp_all
  obtain ⟨rfl, rfl⟩ := trodVars_none hV
  have k0 := h0
  have lt0 : ∀ x ∈ p0, x.block < W.heap.size := by obtain ⟨m, hm⟩ := k0; exact DataW.trod_lt m _ _ _ hm
  obtain ⟨A0, c0, l0, rfl, hc0, hr0, w0⟩ := Open.open_row opens0 Tryd.underlying22 (hval 0 22 v0 rfl rfl) h0 (Open.param hsz (j := 0) (t := 22) rfl rfl)
  obtain ⟨a1, rfl, rfl, rfl, w1⟩ := open_int Tryd.underlying3 (hval 1 3 v1 rfl rfl) h1
  obtain ⟨k, h⟩ := Pure.FnTextEscape l0 a1 w0 w1
  clear hA0 hval0 hsz0 hsz
  refine (laws_FnTextEscape.calls k A0 c0 l0 a1 true W (of_laid hL) hr0 hc0 h).mono fun e W' hh => ?_
  obtain ⟨rfl, bel0⟩ := hh
  have bel : Below W.heap.size W W' := bel0
  exact ⟨_, rfl, _, _, _, [], _, [], hW', trodAll_mk1 (shut_bool Tryd.underlying4 _), (trodAll_cons_mk (Below.trod laidOut (by kernel_rfl) (of_decide_eq_true (by kernel_rfl)) k0 bel lt0) (trodAll_cons_mk (shut_int Tryd.underlying3 w1) trodAll_mk0)), rfl, bel.frame _, fun h => by cases h⟩
theorem over : Rows.fnTextEscapeRow.holds Tryd.pinned (OpenSpec.ofChange Rows.fnTextEscapeSpec) :=
  OpenClaim.holds_of_wide 3 Tryd.f3 rfl rfl rfl rfl rfl rfl rfl ⟨rfl, rfl, rfl, rfl, rfl⟩ rfl rfl rfl rfl rfl (by kernel_rfl) Tryd.func3 (by kernel_rfl)
    (of_decide_eq_true (by kernel_rfl)) (by unfold Func.isWrapper; first | (rw [if_pos (by decide +kernel)]; kernel_rfl) | (rw [if_neg (by decide +kernel)]; exact ⟨rfl, rfl⟩))
    (fun os started H enc _ => lifted os started H enc)
theorem proved : Rows.FnTextEscapeSaid := over
#print axioms proved
theorem carded : Rows.FnTextEscapeCardSaid :=
  Claim7.holds_tied_plain_at .later [] [.data, .data, .data] true (true, "6cf867de59291281f56fd11670687884b4e5cce1d7bc7646fc5459f68659b3b3") false
    over (fun _ h => by cases h) (by kernel_rfl) (fun _ h => by cases h) fnTextEscape_row_tie rfl ⟨rfl, rfl⟩ (by kernel_rfl) rfl
    (fun f fn hf hfn => by
      obtain rfl : f = 3 := Option.some.inj ((show Tryd.prog.funcNamed "pub-pinstripe/laws.FnTextEscape" = some 3 by kernel_rfl).symm.trans hf) |>.symm
      obtain rfl : fn = Tryd.f3 := (Option.some.inj (Tryd.func3.symm.trans hfn)).symm
      exact ⟨by kernel_rfl, fun j t ht => by
        rw [Tryd.params3] at ht
        have hm : t ∈ [22, 3] := by simpa using Array.mem_of_getElem? ht
        have hall : ([22, 3].all fun u => !Tryd.prog.wantsStandIn u) = true := by kernel_rfl
        exact (show Tryd.prog.wantsStandIn t = false by simpa using List.all_eq_true.1 hall t hm)⟩)
    (by kernel_rfl)
#print axioms carded
end Go.Proofs.YthepbgakfkiliaaRDoor.fnTextEscape
namespace Go.Proofs.YthepbgakfkiliaaRDoor
/-- The row, under a short name, for the claim. -/
theorem fnTextEscape_holds : Rows.FnTextEscapeCardSaid := fnTextEscape.carded
end Go.Proofs.YthepbgakfkiliaaRDoor
