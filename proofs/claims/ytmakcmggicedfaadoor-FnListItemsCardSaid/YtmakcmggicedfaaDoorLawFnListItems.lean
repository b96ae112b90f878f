-- Written by hprint.py, a program of this session
import Derived.Test.YtmakcmggicedfaaDoorRows
import Derived.Test.YtmakcmggicedfaaDoorHandListW
import Derived.Test.YtmakcmggicedfaaDoorPureFnListItems
import Derived.Test.YtmakcmggicedfaaDoorOpen
import Derived.WalkKit
import Derived.ProofKit
import Derived.OpenShut
import Derived.ShutString
import Derived.ChangeOld
import Derived.Below
import Derived.SizedLaws
import Derived.Test.YtmakcmggicedfaaDoorWSized
import Derived.Test.YtmakcmggicedfaaDoorCards
import Derived.Test.YtmakcmggicedfaaDoorTie
import Derived.LaidMore
import Derived.Stop.Joined
import Derived.SevenTiedAt
import Derived.Lay
namespace Go.Proofs.YtmakcmggicedfaaDoor.fnListItems
open Go.ChangeShapes Go.WideShapes Go.ChangeAt Go.RowKit Go.Proofs.YtmakcmggicedfaaDoor Go.Proofs.YtmakcmggicedfaaDoor.PFnListItems Go.Proofs.YtmakcmggicedfaaDoorW.PrintWords Go.Proofs.YtmakcmggicedfaaDoorW.PrintLast Go.Proofs.YtmakcmggicedfaaDoorW.PrintMore
open Go.ChangeMaps (open_string shut_string)
set_option linter.unusedVariables false
theorem own : ownKnob Tryd.prog.godebug = none := by kernel_rfl
theorem laidOut : laidOutB Tryd.prog = true := by kernel_rfl
theorem opens0 : Open.Opens Tryd.prog 22 (Kd.slice 33 k33) (fun x => (x.length * 24 ≤ 140737488351232 ∧ x.length ≤ maxLen ∧ ∀ yx ∈ x, (yx.f0.size ≤ 140737488351232 ∧ ((Lit.int .i64 yx.f1).wf = true)))) :=
  (Open.opens_slice Tryd.underlying22 (by kernel_rfl) (Open.opens_struct Tryd.underlying33 (by kernel_rfl) (Open.opens_fields (n := 1) (Open.opens_string Tryd.underlying9 (by kernel_rfl)) rfl (by kernel_rfl) (Open.opens_field (n := 1) (Open.opens_int Tryd.underlying3 (by kernel_rfl)) rfl (by kernel_rfl))) (fun x : S33 => (x.f0, x.f1)) (fun p => ⟨p.1, p.2⟩) (fun _ => rfl)) (by kernel_rfl))
theorem opens1 : Open.Opens Tryd.prog 27 (Kd.slice 9 Kd.string) (fun x => (x.length * 16 ≤ 140737488351232 ∧ x.length ≤ maxLen ∧ ∀ yx ∈ x, yx.size ≤ 140737488351232)) :=
  (Open.opens_slice Tryd.underlying27 (by kernel_rfl) (Open.opens_string Tryd.underlying9 (by kernel_rfl)) (by kernel_rfl))
theorem opens2 : Open.Opens Tryd.prog 24 k24 (fun x => ((Lit.int .i64 x.f0).wf = true ∧ (x.f1.size ≤ 140737488351232 ∧ (x.f2.size ≤ 140737488351232 ∧ (x.f3.size ≤ 140737488351232 ∧ (x.f4.size ≤ 140737488351232 ∧ (x.f5.size ≤ 140737488351232 ∧ (x.f6.size ≤ 140737488351232 ∧ (x.f7.size ≤ 140737488351232 ∧ (x.f8.size ≤ 140737488351232)))))))))) :=
  (Open.opens_struct Tryd.underlying24 (by kernel_rfl) (Open.opens_fields (n := 1) (Open.opens_int Tryd.underlying3 (by kernel_rfl)) rfl (by kernel_rfl) (Open.opens_fields (n := 1) (Open.opens_string Tryd.underlying9 (by kernel_rfl)) rfl (by kernel_rfl) (Open.opens_fields (n := 1) (Open.opens_string Tryd.underlying9 (by kernel_rfl)) rfl (by kernel_rfl) (Open.opens_fields (n := 1) (Open.opens_string Tryd.underlying9 (by kernel_rfl)) rfl (by kernel_rfl) (Open.opens_fields (n := 1) (Open.opens_string Tryd.underlying9 (by kernel_rfl)) rfl (by kernel_rfl) (Open.opens_fields (n := 1) (Open.opens_string Tryd.underlying9 (by kernel_rfl)) rfl (by kernel_rfl) (Open.opens_fields (n := 1) (Open.opens_string Tryd.underlying9 (by kernel_rfl)) rfl (by kernel_rfl) (Open.opens_fields (n := 1) (Open.opens_string Tryd.underlying9 (by kernel_rfl)) rfl (by kernel_rfl) (Open.opens_field (n := 1) (Open.opens_string Tryd.underlying9 (by kernel_rfl)) rfl (by kernel_rfl)))))))))) (fun x : S24 => (x.f0, x.f1, x.f2, x.f3, x.f4, x.f5, x.f6, x.f7, x.f8)) (fun p => ⟨p.1, p.2.1, p.2.2.1, p.2.2.2.1, p.2.2.2.2.1, p.2.2.2.2.2.1, p.2.2.2.2.2.2.1, p.2.2.2.2.2.2.2.1, p.2.2.2.2.2.2.2.2⟩) (fun _ => rfl))
/-- The row's list. -/
noncomputable def laidL : List (String × DataW Unit) := Rows.fnListItemsRow.laid
set_option maxRecDepth 100000 in
theorem lifted (os : Os) (started : os.Started) (H : Type) (enc : TypeId × Value → H) :
    ReturnsInHanded {} Tryd.checked os 4 .any (fun w args => (Rows.fnListItemsSpec.pre enc Tryd.prog Tryd.f4 Rows.fnListItemsRow.domain false w args ∧ laidMetH Tryd.prog laidL w) ∧ sizedMet enc Tryd.prog Tryd.f4 (OpenSpec.ofChange Rows.fnListItemsSpec) false w args) (Rows.fnListItemsSpec.post enc Tryd.prog Tryd.f4 false true false false) := by
  refine returnsInHanded_of_change_and (C := Tryd.checked) (X := fun w _ => laidMetH Tryd.prog laidL w) (fun _ _ _ hh h => h.of_heap hh) own started (by kernel_rfl) Tryd.func4
    (ChangeSpec.witness_shaped (enc := enc) (C := Tryd.checked) (os := os) (X := fun w _ => laidMetH Tryd.prog laidL w) false (World.laidAll Tryd.prog os laidL) #[.slice none 0 0, .slice none 0 0, .agg #[.int .i64 0, .string ByteArray.empty, .string ByteArray.empty, .string ByteArray.empty, .string ByteArray.empty, .string ByteArray.empty, .string ByteArray.empty, .string ByteArray.empty, .string ByteArray.empty]] 8 (World.laidAll_os _ _ _) (World.shaped_of_ZipB (by kernel_rfl) (by kernel_rfl)) (by kernel_rfl) (by kernel_rfl) (by kernel_rfl) (by rw [MakeChecks.laidMetH_plain _ _ _ (by kernel_rfl)]; exact laidMet_laidAll _ (by kernel_rfl) (by kernel_rfl))) ?_
  intro W base args ds gs before hval0 hW hcnd hsz0 hL _
  have hsz : (DataW.weightsEach Tryd.prog (Tryd.f4.params.toList ++ Rows.fnListItemsSpec.plain.varTypes Tryd.prog) (ds ++ gs)).all (· ≤ reachBytes) = true := hsz0
  have hval : ∀ (j : Nat) t v, Tryd.f4.params[j]? = some t → args[j]? = some v → Value.okWide Tryd.prog W .any base t v := hval0
  have hW' := hW
  obtain ⟨p, q, hA0, hV, rfl, hfz, hnd⟩ := hW
  have hA : DataW.TrodAll enc Tryd.prog W 0 (fun _ => true) true Tryd.f4.params.toList args.toList ds p := hA0
  rw [Tryd.params4] at hA hval hsz
  obtain ⟨v0, vs0, d0, ds0, p0, q0, hargs, rfl, rfl, h0, r0⟩ := trodAll_cons hA
  obtain ⟨v1, vs1, d1, ds1, p1, q1, rfl, rfl, rfl, h1, r1⟩ := trodAll_cons r0
  obtain ⟨v2, vs2, d2, ds2, p2, q2, rfl, rfl, rfl, h2, r2⟩ := trodAll_cons r1
  obtain ⟨rfl, rfl, rfl⟩ := trodAll_nil r2
  obtain rfl : args = #[v0, v1, v2] := by cases args; simp_all
  obtain ⟨rfl, rfl⟩ := trodVars_none hV
  have k0 := h0
  have lt0 : ∀ x ∈ p0, x.block < W.heap.size := by obtain ⟨m, hm⟩ := k0; exact DataW.trod_lt m _ _ _ hm
  obtain ⟨A0, c0, l0, rfl, hc0, hr0, w0⟩ := Open.open_row opens0 Tryd.underlying22 (hval 0 22 v0 rfl rfl) h0 (Open.param hsz (j := 0) (t := 22) rfl rfl)
  have k1 := h1
  have lt1 : ∀ x ∈ p1, x.block < W.heap.size := by obtain ⟨m, hm⟩ := k1; exact DataW.trod_lt m _ _ _ hm
  obtain ⟨A1, c1, l1, rfl, hc1, hr1, w1⟩ := Open.open_row opens1 Tryd.underlying27 (hval 1 27 v1 rfl rfl) h1 (Open.param hsz (j := 1) (t := 27) rfl rfl)
  have k2 := h2
  have lt2 : ∀ x ∈ p2, x.block < W.heap.size := by obtain ⟨m, hm⟩ := k2; exact DataW.trod_lt m _ _ _ hm
  obtain ⟨cs2, x2, rfl, hK2, w2⟩ := Open.open_rec opens2 Tryd.underlying24 (hval 2 24 v2 rfl rfl) h2 (Open.param hsz (j := 2) (t := 24) rfl rfl)
  obtain ⟨_, _, rfl, rfl, ⟨_, _, rfl, rfl, ⟨_, _, rfl, rfl, ⟨_, _, rfl, rfl, ⟨_, _, rfl, rfl, ⟨_, _, rfl, rfl, ⟨_, _, rfl, rfl, ⟨_, _, rfl, rfl, rfl⟩⟩⟩⟩⟩⟩⟩⟩ := hK2
  have h := Pure.FnListItems l0 l1 x2.f0 x2.f1 x2.f2 x2.f3 x2.f4 x2.f5 x2.f6 x2.f7 x2.f8 w0 w1 w2.1 w2.2.1 w2.2.2.1 w2.2.2.2.1 w2.2.2.2.2.1 w2.2.2.2.2.2.1 w2.2.2.2.2.2.2.1 w2.2.2.2.2.2.2.2.1 w2.2.2.2.2.2.2.2.2
  clear hA0 hval0 hsz0 hsz
  refine (laws_FnListItems.calls A0 c0 l0 A1 c1 l1 x2.f0 x2.f1 x2.f2 x2.f3 x2.f4 x2.f5 x2.f6 x2.f7 x2.f8 true W hr0 hc0 hr1 hc1 h).mono fun e W' hh => ?_
  obtain ⟨rfl, bel0⟩ := hh
  have bel : Below W.heap.size W W' := bel0
  exact ⟨_, rfl, _, _, _, [], _, [], hW', trodAll_mk1 (shut_bool Tryd.underlying4 _), (trodAll_cons_mk (Below.trod laidOut (by kernel_rfl) (of_decide_eq_true (by kernel_rfl)) k0 bel lt0) (trodAll_cons_mk (Below.trod laidOut (by kernel_rfl) (of_decide_eq_true (by kernel_rfl)) k1 bel lt1) (trodAll_cons_mk (Below.trod laidOut (by kernel_rfl) (of_decide_eq_true (by kernel_rfl)) k2 bel lt2) trodAll_mk0))), rfl, bel.frame _, fun h => by cases h⟩
theorem over : Rows.fnListItemsRow.holds Tryd.pinned (OpenSpec.ofChange Rows.fnListItemsSpec) :=
  OpenClaim.holds_of_wide 4 Tryd.f4 rfl rfl rfl rfl rfl rfl rfl ⟨rfl, rfl, rfl, rfl, rfl⟩ rfl rfl rfl rfl rfl (by kernel_rfl) Tryd.func4 (by kernel_rfl)
    (of_decide_eq_true (by kernel_rfl)) (by unfold Func.isWrapper; first | (rw [if_pos (by decide +kernel)]; kernel_rfl) | (rw [if_neg (by decide +kernel)]; exact ⟨rfl, rfl⟩))
    (fun os started H enc _ => lifted os started H enc)
theorem proved : Rows.FnListItemsSaid := over
#print axioms proved
theorem carded : Rows.FnListItemsCardSaid :=
  Claim7.holds_tied_plain_at .later [] [.data, .listed, .data, .pinned, .pinned, .pinned, .pinned] true (true, "57e2bdd55444eb72c52649d50f904c263ad0bd183593c549b949629105c19c12") true
    over (fun _ h => by cases h) (by kernel_rfl) (fun _ h => by cases h) fnListItems_row_tie rfl ⟨rfl, rfl⟩ (by kernel_rfl) rfl
    (fun f fn hf hfn => by
      obtain rfl : f = 4 := Option.some.inj ((show Tryd.prog.funcNamed "pub-pinstripe/laws.FnListItems" = some 4 by kernel_rfl).symm.trans hf) |>.symm
      obtain rfl : fn = Tryd.f4 := (Option.some.inj (Tryd.func4.symm.trans hfn)).symm
      exact ⟨by kernel_rfl, fun j t ht => by
        rw [Tryd.params4] at ht
        have hm : t ∈ [22, 27, 24] := by simpa using Array.mem_of_getElem? ht
        have hall : ([22, 27, 24].all fun u => !Tryd.prog.wantsStandIn u) = true := by kernel_rfl
        exact (show Tryd.prog.wantsStandIn t = false by simpa using List.all_eq_true.1 hall t hm)⟩)
    (by kernel_rfl)
#print axioms carded
end Go.Proofs.YtmakcmggicedfaaDoor.fnListItems
namespace Go.Proofs.YtmakcmggicedfaaDoor
/-- The row, under a short name, for the claim. -/
theorem fnListItems_holds : Rows.FnListItemsCardSaid := fnListItems.carded
end Go.Proofs.YtmakcmggicedfaaDoor
