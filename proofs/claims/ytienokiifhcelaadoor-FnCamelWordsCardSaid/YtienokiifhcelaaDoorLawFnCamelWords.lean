-- Written by hprint.py, a program of this session
import Derived.Test.YtienokiifhcelaaDoorRows
import Derived.Test.YtienokiifhcelaaDoorPFnCamelWordsx2
import Derived.Test.YtienokiifhcelaaDoorPureFnCamelWords
import Derived.Test.YtienokiifhcelaaDoorOpen
import Derived.WalkKit
import Derived.ProofKit
import Derived.OpenShut
import Derived.ShutString
import Derived.ChangeOld
import Derived.Below
import Derived.SizedLaws
import Derived.Test.YtienokiifhcelaaDoorWSized
import Derived.Test.YtienokiifhcelaaDoorCards
import Derived.Test.YtienokiifhcelaaDoorTie
import Derived.LaidMore
import Derived.Stop.Joined
import Derived.SevenTiedAt
import Derived.Lay
namespace Go.Proofs.YtienokiifhcelaaDoor.fnCamelWords
open Go.ChangeShapes Go.WideShapes Go.ChangeAt Go.RowKit Go.Proofs.YtienokiifhcelaaDoor Go.Proofs.YtienokiifhcelaaDoor.PFnCamelWords Go.Proofs.YtienokiifhcelaaDoorW.PrintWords Go.Proofs.YtienokiifhcelaaDoorW.PrintLast Go.Proofs.YtienokiifhcelaaDoorW.PrintMore
open Go.ChangeMaps (open_string shut_string)
open Go.Proofs.YtienokiifhcelaaDoor.Hand
set_option linter.unusedVariables false
theorem own : ownKnob Tryd.prog.godebug = none := by kernel_rfl
theorem laidOut : laidOutB Tryd.prog = true := by kernel_rfl
theorem opens0 : Open.Opens Tryd.prog 22 (Kd.slice 9 Kd.string) (fun x => (x.length * 16 ≤ 140737488351232 ∧ x.length ≤ maxLen ∧ ∀ yx ∈ x, yx.size ≤ 140737488351232)) :=
  (Open.opens_slice Tryd.underlying22 (by kernel_rfl) (Open.opens_string Tryd.underlying9 (by kernel_rfl)) (by kernel_rfl))
theorem opens1 : Open.Opens Tryd.prog 23 (Kd.slice 4 Kd.bool) (fun x => (x.length * 1 ≤ 140737488351232 ∧ x.length ≤ maxLen ∧ ∀ yx ∈ x, True)) :=
  (Open.opens_slice Tryd.underlying23 (by kernel_rfl) (Open.opens_bool Tryd.underlying4 (by kernel_rfl)) (by kernel_rfl))
/-- The row's list. -/
noncomputable def laidL : List (String × DataW Unit) := Rows.fnCamelWordsRow.laid
theorem of_laid {W : World} (h : laidMetH Tryd.prog laidL W) : LaidW W := by
  rw [MakeChecks.laidMetH_plain _ _ _ (by kernel_rfl)] at h
  exact LaidW.of_laid h (List.mem_of_getElem? (i := 3) (by kernel_rfl)) (List.mem_of_getElem? (i := 2) (by kernel_rfl)) (List.mem_of_getElem? (i := 7) (by kernel_rfl)) (List.mem_of_getElem? (i := 0) (by kernel_rfl))
set_option maxRecDepth 100000 in
theorem lifted (os : Os) (started : os.Started) (H : Type) (enc : TypeId × Value → H) :
    ReturnsInHanded {} Tryd.checked os 3 .any (fun w args => (Rows.fnCamelWordsSpec.pre enc Tryd.prog Tryd.f3 Rows.fnCamelWordsRow.domain false w args ∧ laidMetH Tryd.prog laidL w) ∧ sizedMet enc Tryd.prog Tryd.f3 (OpenSpec.ofChange Rows.fnCamelWordsSpec) false w args) (Rows.fnCamelWordsSpec.post enc Tryd.prog Tryd.f3 false true false false) := by
  refine returnsInHanded_of_change_and (C := Tryd.checked) (X := fun w _ => laidMetH Tryd.prog laidL w) (fun _ _ _ hh h => h.of_heap hh) own started (by kernel_rfl) Tryd.func3
    (ChangeSpec.witness_shaped (enc := enc) (C := Tryd.checked) (os := os) (X := fun w _ => laidMetH Tryd.prog laidL w) false (World.laidAll Tryd.prog os laidL) #[.slice none 0 0, .slice none 0 0] 8 (World.laidAll_os _ _ _) (World.shaped_of_ZipB (by kernel_rfl) (by kernel_rfl)) (by kernel_rfl) (by kernel_rfl) (by kernel_rfl) (by rw [MakeChecks.laidMetH_plain _ _ _ (by kernel_rfl)]; exact laidMet_laidAll _ (by kernel_rfl) (by kernel_rfl))) ?_
  intro W base args ds gs before hval0 hW hcnd hsz0 hL _
  have hsz : (DataW.weightsEach Tryd.prog (Tryd.f3.params.toList ++ Rows.fnCamelWordsSpec.plain.varTypes Tryd.prog) (ds ++ gs)).all (· ≤ reachBytes) = true := hsz0
  have hval : ∀ (j : Nat) t v, Tryd.f3.params[j]? = some t → args[j]? = some v → Value.okWide Tryd.prog W .any base t v := hval0
  have hW' := hW
  obtain ⟨p, q, hA0, hV, rfl, hfz, hnd⟩ := hW
  have hA : DataW.TrodAll enc Tryd.prog W 0 (fun _ => true) true Tryd.f3.params.toList args.toList ds p := hA0
  rw [Tryd.params3] at hA hval hsz
  obtain ⟨v0, vs0, d0, ds0, p0, q0, hargs, rfl, rfl, h0, r0⟩ := trodAll_cons hA
  obtain ⟨v1, vs1, d1, ds1, p1, q1, rfl, rfl, rfl, h1, r1⟩ := trodAll_cons r0
  obtain ⟨rfl, rfl, rfl⟩ := trodAll_nil r1
  obtain rfl : args = #[v0, v1] := by cases args; simp_all
  obtain ⟨rfl, rfl⟩ := trodVars_none hV
  have k0 := h0
  have lt0 : ∀ x ∈ p0, x.block < W.heap.size := by obtain ⟨m, hm⟩ := k0; exact DataW.trod_lt m _ _ _ hm
  obtain ⟨A0, c0, l0, rfl, hc0, hr0, w0⟩ := Open.open_row opens0 Tryd.underlying22 (hval 0 22 v0 rfl rfl) h0 (Open.param hsz (j := 0) (t := 22) rfl rfl)
  have k1 := h1
  have lt1 : ∀ x ∈ p1, x.block < W.heap.size := by obtain ⟨m, hm⟩ := k1; exact DataW.trod_lt m _ _ _ hm
  obtain ⟨A1, c1, l1, rfl, hc1, hr1, w1⟩ := Open.open_row opens1 Tryd.underlying23 (hval 1 23 v1 rfl rfl) h1 (Open.param hsz (j := 1) (t := 23) rfl rfl)
  obtain ⟨k, h⟩ := Pure.FnCamelWords l0 l1 w0 w1
  clear hA0 hval0 hsz0 hsz
  refine (laws_FnCamelWords.calls k A0 c0 l0 A1 c1 l1 true W (of_laid hL) hr0 hc0 hr1 hc1 h).mono fun e W' hh => ?_
  obtain ⟨rfl, bel0⟩ := hh
  have bel : Below W.heap.size W W' := bel0
  exact ⟨_, rfl, _, _, _, [], _, [], hW', trodAll_mk1 (shut_bool Tryd.underlying4 _), (trodAll_cons_mk (Below.trod laidOut (by kernel_rfl) (of_decide_eq_true (by kernel_rfl)) k0 bel lt0) (trodAll_cons_mk (Below.trod laidOut (by kernel_rfl) (of_decide_eq_true (by kernel_rfl)) k1 bel lt1) trodAll_mk0)), rfl, bel.frame _, fun h => by cases h⟩
theorem over : Rows.fnCamelWordsRow.holds Tryd.pinned (OpenSpec.ofChange Rows.fnCamelWordsSpec) :=
  OpenClaim.holds_of_wide 3 Tryd.f3 rfl rfl rfl rfl rfl rfl rfl ⟨rfl, rfl, rfl, rfl, rfl⟩ rfl rfl rfl rfl rfl (by kernel_rfl) Tryd.func3 (by kernel_rfl)
    (of_decide_eq_true (by kernel_rfl)) (by unfold Func.isWrapper; first | (rw [if_pos (by decide +kernel)]; kernel_rfl) | (rw [if_neg (by decide +kernel)]; exact ⟨rfl, rfl⟩))
    (fun os started H enc _ => lifted os started H enc)
theorem proved : Rows.FnCamelWordsSaid := over
#print axioms proved
theorem carded : Rows.FnCamelWordsCardSaid :=
  Claim7.holds_tied_plain_at .later [] [.data, .listed, .data, .data, .pinned, .pinned, .pinned, .pinned] true (true, "c7b13d3ad0184766da94b3ee11dd098c4daac10827f17549da6a930efe591411") false
    over (fun _ h => by cases h) (by kernel_rfl) (fun _ h => by cases h) fnCamelWords_row_tie rfl ⟨rfl, rfl⟩ (by kernel_rfl) rfl
    (fun f fn hf hfn => by
      obtain rfl : f = 3 := Option.some.inj ((show Tryd.prog.funcNamed "pub-pinstripe/laws.FnCamelWords" = some 3 by kernel_rfl).symm.trans hf) |>.symm
      obtain rfl : fn = Tryd.f3 := (Option.some.inj (Tryd.func3.symm.trans hfn)).symm
      exact ⟨by kernel_rfl, fun j t ht => by
        rw [Tryd.params3] at ht
        have hm : t ∈ [22, 23] := by simpa using Array.mem_of_getElem? ht
        have hall : ([22, 23].all fun u => !Tryd.prog.wantsStandIn u) = true := by kernel_rfl
        exact (show Tryd.prog.wantsStandIn t = false by simpa using List.all_eq_true.1 hall t hm)⟩)
    (by kernel_rfl)
#print axioms carded
end Go.Proofs.YtienokiifhcelaaDoor.fnCamelWords
namespace Go.Proofs.YtienokiifhcelaaDoor
/-- The row, under a short name, for the claim. -/
theorem fnCamelWords_holds : Rows.FnCamelWordsCardSaid := fnCamelWords.carded
end Go.Proofs.YtienokiifhcelaaDoor
