-- Written by hprint.py, a program of this session
import Derived.Test.YtmakcmggicedfaaGreatDoorRows
import Derived.Test.YtmakcmggicedfaaGreatDoorPFnListMarkdownx4
import Derived.Test.YtmakcmggicedfaaGreatDoorPureFnListMarkdown
import Derived.Test.YtmakcmggicedfaaGreatDoorOpen
import Derived.WalkKit
import Derived.ProofKit
import Derived.OpenShut
import Derived.ShutString
import Derived.ChangeOld
import Derived.Below
import Derived.SizedLaws
import Derived.Test.YtmakcmggicedfaaGreatDoorWSized
import Derived.Test.YtmakcmggicedfaaGreatDoorCards
import Derived.Test.YtmakcmggicedfaaGreatDoorTie
import Derived.LaidMore
import Derived.Stop.Joined
import Derived.SevenTiedAt
import Derived.Lay
namespace Go.Proofs.YtmakcmggicedfaaGreatDoor.fnListMarkdown
open Go.ChangeShapes Go.WideShapes Go.ChangeAt Go.RowKit Go.Proofs.YtmakcmggicedfaaGreatDoor Go.Proofs.YtmakcmggicedfaaGreatDoor.PFnListMarkdown Go.Proofs.YtmakcmggicedfaaGreatDoorW.PrintWords Go.Proofs.YtmakcmggicedfaaGreatDoorW.PrintLast Go.Proofs.YtmakcmggicedfaaGreatDoorW.PrintMore
open Go.ChangeMaps (open_string shut_string)
set_option linter.unusedVariables false
theorem own : ownKnob Tryz.prog.godebug = none := by kernel_rfl
theorem laidOut : laidOutB Tryz.prog = true := by kernel_rfl
theorem opens0 : Open.Opens Tryz.prog 22 (Kd.slice 34 k34) (fun x => (x.length * 24 ≤ 140737488351232 ∧ x.length ≤ maxLen ∧ ∀ yx ∈ x, (yx.f0.size ≤ 140737488351232 ∧ ((Lit.int .i64 yx.f1).wf = true)))) :=
  (Open.opens_slice Tryz.underlying22 (by kernel_rfl) (Open.opens_struct Tryz.underlying34 (by kernel_rfl) (Open.opens_fields (n := 1) (Open.opens_string Tryz.underlying9 (by kernel_rfl)) rfl (by kernel_rfl) (Open.opens_field (n := 1) (Open.opens_int Tryz.underlying3 (by kernel_rfl)) rfl (by kernel_rfl))) (fun x : S34 => (x.f0, x.f1)) (fun p => ⟨p.1, p.2⟩) (fun _ => rfl)) (by kernel_rfl))
theorem opens1 : Open.Opens Tryz.prog 24 k24 (fun x => ((Lit.int .i64 x.f0).wf = true ∧ (x.f1.size ≤ 140737488351232 ∧ (x.f2.size ≤ 140737488351232 ∧ (x.f3.size ≤ 140737488351232 ∧ (x.f4.size ≤ 140737488351232 ∧ (x.f5.size ≤ 140737488351232 ∧ (x.f6.size ≤ 140737488351232 ∧ (x.f7.size ≤ 140737488351232 ∧ (x.f8.size ≤ 140737488351232)))))))))) :=
  (Open.opens_struct Tryz.underlying24 (by kernel_rfl) (Open.opens_fields (n := 1) (Open.opens_int Tryz.underlying3 (by kernel_rfl)) rfl (by kernel_rfl) (Open.opens_fields (n := 1) (Open.opens_string Tryz.underlying9 (by kernel_rfl)) rfl (by kernel_rfl) (Open.opens_fields (n := 1) (Open.opens_string Tryz.underlying9 (by kernel_rfl)) rfl (by kernel_rfl) (Open.opens_fields (n := 1) (Open.opens_string Tryz.underlying9 (by kernel_rfl)) rfl (by kernel_rfl) (Open.opens_fields (n := 1) (Open.opens_string Tryz.underlying9 (by kernel_rfl)) rfl (by kernel_rfl) (Open.opens_fields (n := 1) (Open.opens_string Tryz.underlying9 (by kernel_rfl)) rfl (by kernel_rfl) (Open.opens_fields (n := 1) (Open.opens_string Tryz.underlying9 (by kernel_rfl)) rfl (by kernel_rfl) (Open.opens_fields (n := 1) (Open.opens_string Tryz.underlying9 (by kernel_rfl)) rfl (by kernel_rfl) (Open.opens_field (n := 1) (Open.opens_string Tryz.underlying9 (by kernel_rfl)) rfl (by kernel_rfl)))))))))) (fun x : S24 => (x.f0, x.f1, x.f2, x.f3, x.f4, x.f5, x.f6, x.f7, x.f8)) (fun p => ⟨p.1, p.2.1, p.2.2.1, p.2.2.2.1, p.2.2.2.2.1, p.2.2.2.2.2.1, p.2.2.2.2.2.2.1, p.2.2.2.2.2.2.2.1, p.2.2.2.2.2.2.2.2⟩) (fun _ => rfl))
/-- The row's list. -/
noncomputable def laidL : List (String × DataW Unit) := Rows.fnListMarkdownRow.laid
set_option maxRecDepth 100000 in
theorem lifted (os : Os) (started : os.Started) (H : Type) (enc : TypeId × Value → H) :
    ReturnsInHanded {} Tryz.checked os 3 .any (fun w args => (Rows.fnListMarkdownSpec.pre enc Tryz.prog Tryz.f3 Rows.fnListMarkdownRow.domain false w args ∧ laidMetH Tryz.prog laidL w) ∧ sizedMet enc Tryz.prog Tryz.f3 (OpenSpec.ofChange Rows.fnListMarkdownSpec) false w args) (Rows.fnListMarkdownSpec.post enc Tryz.prog Tryz.f3 false true false false) := by
  refine returnsInHanded_of_change_and (C := Tryz.checked) (X := fun w _ => laidMetH Tryz.prog laidL w) (fun _ _ _ hh h => h.of_heap hh) own started (by kernel_rfl) Tryz.func3
    (ChangeSpec.witness_shaped (enc := enc) (C := Tryz.checked) (os := os) (X := fun w _ => laidMetH Tryz.prog laidL w) false (World.laidAll Tryz.prog os laidL) #[.slice none 0 0, .agg #[.int .i64 0, .string ByteArray.empty, .string ByteArray.empty, .string ByteArray.empty, .string ByteArray.empty, .string ByteArray.empty, .string ByteArray.empty, .string ByteArray.empty, .string ByteArray.empty]] 8 (World.laidAll_os _ _ _) (World.shaped_of_ZipB (by kernel_rfl) (by kernel_rfl)) (by kernel_rfl) (by kernel_rfl) (by kernel_rfl) (by rw [MakeChecks.laidMetH_plain _ _ _ (by kernel_rfl)]; exact laidMet_laidAll _ (by kernel_rfl) (by kernel_rfl))) ?_
  intro W base args ds gs before hval0 hW hcnd hsz0 hL _
  have hsz : (DataW.weightsEach Tryz.prog (Tryz.f3.params.toList ++ Rows.fnListMarkdownSpec.plain.varTypes Tryz.prog) (ds ++ gs)).all (· ≤ reachBytes) = true := hsz0
  have hval : ∀ (j : Nat) t v, Tryz.f3.params[j]? = some t → args[j]? = some v → Value.okWide Tryz.prog W .any base t v := hval0
  have hW' := hW
  obtain ⟨p, q, hA0, hV, rfl, hfz, hnd⟩ := hW
  have hA : DataW.TrodAll enc Tryz.prog W 0 (fun _ => true) true Tryz.f3.params.toList args.toList ds p := hA0
  rw [Tryz.params3] at hA hval hsz
  obtain ⟨v0, vs0, d0, ds0, p0, q0, hargs, rfl, rfl, h0, r0⟩ := trodAll_cons hA
  obtain ⟨v1, vs1, d1, ds1, p1, q1, rfl, rfl, rfl, h1, r1⟩ := trodAll_cons r0
  obtain ⟨rfl, rfl, rfl⟩ := trodAll_nil r1
  obtain rfl : args = #[v0, v1] := by cases args; simp_all
  obtain ⟨rfl, rfl⟩ := trodVars_none hV
  have k0 := h0
  have lt0 : ∀ x ∈ p0, x.block < W.heap.size := by obtain ⟨m, hm⟩ := k0; exact DataW.trod_lt m _ _ _ hm
  obtain ⟨A0, c0, l0, rfl, hc0, hr0, w0⟩ := Open.open_row opens0 Tryz.underlying22 (hval 0 22 v0 rfl rfl) h0 (Open.param hsz (j := 0) (t := 22) rfl rfl)
  have k1 := h1
  have lt1 : ∀ x ∈ p1, x.block < W.heap.size := by obtain ⟨m, hm⟩ := k1; exact DataW.trod_lt m _ _ _ hm
  obtain ⟨cs1, x1, rfl, hK1, w1⟩ := Open.open_rec opens1 Tryz.underlying24 (hval 1 24 v1 rfl rfl) h1 (Open.param hsz (j := 1) (t := 24) rfl rfl)
  obtain ⟨_, _, rfl, rfl, ⟨_, _, rfl, rfl, ⟨_, _, rfl, rfl, ⟨_, _, rfl, rfl, ⟨_, _, rfl, rfl, ⟨_, _, rfl, rfl, ⟨_, _, rfl, rfl, ⟨_, _, rfl, rfl, rfl⟩⟩⟩⟩⟩⟩⟩⟩ := hK1
  obtain ⟨k, h⟩ := Pure.FnListMarkdown l0 x1.f0 x1.f1 x1.f2 x1.f3 x1.f4 x1.f5 x1.f6 x1.f7 x1.f8 w0 w1.1 w1.2.1 w1.2.2.1 w1.2.2.2.1 w1.2.2.2.2.1 w1.2.2.2.2.2.1 w1.2.2.2.2.2.2.1 w1.2.2.2.2.2.2.2.1 w1.2.2.2.2.2.2.2.2
  clear hA0 hval0 hsz0 hsz
  refine (laws_FnListMarkdown.calls k A0 c0 l0 x1.f0 x1.f1 x1.f2 x1.f3 x1.f4 x1.f5 x1.f6 x1.f7 x1.f8 true W hr0 hc0 h).mono fun e W' hh => ?_
  obtain ⟨rfl, bel0⟩ := hh
  have bel : Below W.heap.size W W' := bel0
  exact ⟨_, rfl, _, _, _, [], _, [], hW', trodAll_mk1 (shut_bool Tryz.underlying4 _), (trodAll_cons_mk (Below.trod laidOut (by kernel_rfl) (of_decide_eq_true (by kernel_rfl)) k0 bel lt0) (trodAll_cons_mk (Below.trod laidOut (by kernel_rfl) (of_decide_eq_true (by kernel_rfl)) k1 bel lt1) trodAll_mk0)), rfl, bel.frame _, fun h => by cases h⟩
theorem over : Rows.fnListMarkdownRow.holds Tryz.pinned (OpenSpec.ofChange Rows.fnListMarkdownSpec) :=
  OpenClaim.holds_of_wide 3 Tryz.f3 rfl rfl rfl rfl rfl rfl rfl ⟨rfl, rfl, rfl, rfl, rfl⟩ rfl rfl rfl rfl rfl (by kernel_rfl) Tryz.func3 (by kernel_rfl)
    (of_decide_eq_true (by kernel_rfl)) (by unfold Func.isWrapper; first | (rw [if_pos (by decide +kernel)]; kernel_rfl) | (rw [if_neg (by decide +kernel)]; exact ⟨rfl, rfl⟩))
    (fun os started H enc _ => lifted os started H enc)
theorem proved : Rows.FnListMarkdownSaid := over
#print axioms proved
theorem carded : Rows.FnListMarkdownCardSaid :=
  Claim7.holds_tied_plain_at .later [] [.data, .listed, .data, .pinned, .pinned, .pinned, .pinned] true (true, "fb856549f3015956f665abfe5a023ce420ad8091bd440f949db77fd97d080052") true
    over (fun _ h => by cases h) (by kernel_rfl) (fun _ h => by cases h) fnListMarkdown_row_tie rfl ⟨rfl, rfl⟩ (by kernel_rfl) rfl
    (fun f fn hf hfn => by
      obtain rfl : f = 3 := Option.some.inj ((show Tryz.prog.funcNamed "pub-pinstripe/laws.FnListMarkdown" = some 3 by kernel_rfl).symm.trans hf) |>.symm
      obtain rfl : fn = Tryz.f3 := (Option.some.inj (Tryz.func3.symm.trans hfn)).symm
      exact ⟨by kernel_rfl, fun j t ht => by
        rw [Tryz.params3] at ht
        have hm : t ∈ [22, 24] := by simpa using Array.mem_of_getElem? ht
        have hall : ([22, 24].all fun u => !Tryz.prog.wantsStandIn u) = true := by kernel_rfl
        exact (show Tryz.prog.wantsStandIn t = false by simpa using List.all_eq_true.1 hall t hm)⟩)
    (by kernel_rfl)
#print axioms carded
end Go.Proofs.YtmakcmggicedfaaGreatDoor.fnListMarkdown
namespace Go.Proofs.YtmakcmggicedfaaGreatDoor
/-- The row, under a short name, for the claim. -/
theorem fnListMarkdown_holds : Rows.FnListMarkdownCardSaid := fnListMarkdown.carded
end Go.Proofs.YtmakcmggicedfaaGreatDoor
