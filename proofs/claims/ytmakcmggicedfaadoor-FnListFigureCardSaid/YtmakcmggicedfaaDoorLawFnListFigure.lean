-- Written by hprint.py, a program of this session
import Derived.Test.YtmakcmggicedfaaDoorRows
import Derived.Test.YtmakcmggicedfaaDoorPFnListFigurex1
import Derived.Test.YtmakcmggicedfaaDoorPureFnListFigure
import Derived.Test.YtmakcmggicedfaaDoorOpen
import Derived.WalkKit
import Derived.ProofKit
import Derived.OpenShut
import Derived.ShutString
import Derived.ChangeOld
import Derived.Below
import Derived.SizedLaws
import Derived.Test.YtmakcmggicedfaaDoorWSized
import Derived.Test.YtmakcmggicedfaaDoorCards
import Derived.Test.YtmakcmggicedfaaDoorTie
import Derived.LaidMore
import Derived.Stop.Joined
import Derived.SevenTiedAt
import Derived.Lay
namespace Go.Proofs.YtmakcmggicedfaaDoor.fnListFigure
open Go.ChangeShapes Go.WideShapes Go.ChangeAt Go.RowKit Go.Proofs.YtmakcmggicedfaaDoor Go.Proofs.YtmakcmggicedfaaDoor.PFnListFigure Go.Proofs.YtmakcmggicedfaaDoorW.PrintWords Go.Proofs.YtmakcmggicedfaaDoorW.PrintLast Go.Proofs.YtmakcmggicedfaaDoorW.PrintMore
open Go.ChangeMaps (open_string shut_string)
set_option linter.unusedVariables false
theorem own : ownKnob Tryd.prog.godebug = none := by kernel_rfl
theorem laidOut : laidOutB Tryd.prog = true := by kernel_rfl
/-- The row's list. -/
noncomputable def laidL : List (String × DataW Unit) := Rows.fnListFigureRow.laid
set_option maxRecDepth 100000 in
theorem lifted (os : Os) (started : os.Started) (H : Type) (enc : TypeId × Value → H) :
    ReturnsInHanded {} Tryd.checked os 5 .any (fun w args => (Rows.fnListFigureSpec.pre enc Tryd.prog Tryd.f5 Rows.fnListFigureRow.domain false w args ∧ laidMetH Tryd.prog laidL w) ∧ sizedMet enc Tryd.prog Tryd.f5 (OpenSpec.ofChange Rows.fnListFigureSpec) false w args) (Rows.fnListFigureSpec.post enc Tryd.prog Tryd.f5 false true false false) := by
  refine returnsInHanded_of_change_and (C := Tryd.checked) (X := fun w _ => laidMetH Tryd.prog laidL w) (fun _ _ _ hh h => h.of_heap hh) own started (by kernel_rfl) Tryd.func5
    (ChangeSpec.witness_shaped (enc := enc) (C := Tryd.checked) (os := os) (X := fun w _ => laidMetH Tryd.prog laidL w) false (World.laidAll Tryd.prog os laidL) #[.int .u8 0] 8 (World.laidAll_os _ _ _) (World.shaped_of_ZipB (by kernel_rfl) (by kernel_rfl)) (by kernel_rfl) (by kernel_rfl) (by kernel_rfl) (by rw [MakeChecks.laidMetH_plain _ _ _ (by kernel_rfl)]; exact laidMet_laidAll _ (by kernel_rfl) (by kernel_rfl))) ?_
  intro W base args ds gs before hval0 hW hcnd hsz0 hL _
  have hsz : (DataW.weightsEach Tryd.prog (Tryd.f5.params.toList ++ Rows.fnListFigureSpec.plain.varTypes Tryd.prog) (ds ++ gs)).all (· ≤ reachBytes) = true := hsz0
  have hval : ∀ (j : Nat) t v, Tryd.f5.params[j]? = some t → args[j]? = some v → Value.okWide Tryd.prog W .any base t v := hval0
  have hW' := hW
  obtain ⟨p, q, hA0, hV, rfl, hfz, hnd⟩ := hW
  have hA : DataW.TrodAll enc Tryd.prog W 0 (fun _ => true) true Tryd.f5.params.toList args.toList ds p := hA0
  rw [Tryd.params5] at hA hval hsz
  obtain ⟨v0, vs0, d0, ds0, p0, q0, hargs, rfl, rfl, h0, r0⟩ := trodAll_cons hA
  obtain ⟨rfl, rfl, rfl⟩ := trodAll_nil r0
  obtain rfl : args = #[v0] := by cases args; simp_all
  obtain ⟨rfl, rfl⟩ := trodVars_none hV
  obtain ⟨a0, rfl, rfl, rfl, w0⟩ := open_int Tryd.underlying5 (hval 0 5 v0 rfl rfl) h0
  obtain ⟨k, h⟩ := Pure.FnListFigure a0 w0
  clear hA0 hval0 hsz0 hsz
  refine (laws_FnListFigure.calls k a0 true W  h).mono fun e W' hh => ?_
  obtain ⟨rfl, bel0⟩ := hh
  have bel : Below W.heap.size W W' := bel0
  exact ⟨_, rfl, _, _, _, [], _, [], hW', trodAll_mk1 (shut_bool Tryd.underlying4 _), (trodAll_cons_mk (shut_int Tryd.underlying5 w0) trodAll_mk0), rfl, bel.frame _, fun h => by cases h⟩
theorem over : Rows.fnListFigureRow.holds Tryd.pinned (OpenSpec.ofChange Rows.fnListFigureSpec) :=
  OpenClaim.holds_of_wide 5 Tryd.f5 rfl rfl rfl rfl rfl rfl rfl ⟨rfl, rfl, rfl, rfl, rfl⟩ rfl rfl rfl rfl rfl (by kernel_rfl) Tryd.func5 (by kernel_rfl)
    (of_decide_eq_true (by kernel_rfl)) (by unfold Func.isWrapper; first | (rw [if_pos (by decide +kernel)]; kernel_rfl) | (rw [if_neg (by decide +kernel)]; exact ⟨rfl, rfl⟩))
    (fun os started H enc _ => lifted os started H enc)
theorem proved : Rows.FnListFigureSaid := over
#print axioms proved
theorem carded : Rows.FnListFigureCardSaid :=
  Claim7.holds_tied_plain_at .later [] [.data, .listed, .data, .pinned, .pinned, .pinned, .pinned] true (true, "57e2bdd55444eb72c52649d50f904c263ad0bd183593c549b949629105c19c12") true
    over (fun _ h => by cases h) (by kernel_rfl) (fun _ h => by cases h) fnListFigure_row_tie rfl ⟨rfl, rfl⟩ (by kernel_rfl) rfl
    (fun f fn hf hfn => by
      obtain rfl : f = 5 := Option.some.inj ((show Tryd.prog.funcNamed "pub-pinstripe/laws.FnListFigure" = some 5 by kernel_rfl).symm.trans hf) |>.symm
      obtain rfl : fn = Tryd.f5 := (Option.some.inj (Tryd.func5.symm.trans hfn)).symm
      exact ⟨by kernel_rfl, fun j t ht => by
        rw [Tryd.params5] at ht
        have hm : t ∈ [5] := by simpa using Array.mem_of_getElem? ht
        have hall : ([5].all fun u => !Tryd.prog.wantsStandIn u) = true := by kernel_rfl
        exact (show Tryd.prog.wantsStandIn t = false by simpa using List.all_eq_true.1 hall t hm)⟩)
    (by kernel_rfl)
#print axioms carded
end Go.Proofs.YtmakcmggicedfaaDoor.fnListFigure
namespace Go.Proofs.YtmakcmggicedfaaDoor
/-- The row, under a short name, for the claim. -/
theorem fnListFigure_holds : Rows.FnListFigureCardSaid := fnListFigure.carded
end Go.Proofs.YtmakcmggicedfaaDoor
