-- Written by hprint.py, a program of this session
import Derived.Test.YtedknmaaaaomoaaRows
import Derived.Test.YtedknmaaaaomoaaPFnMarkdownSeparatorx2
import Derived.Test.YtedknmaaaaomoaaPureFnMarkdownSeparator
import Derived.Test.YtedknmaaaaomoaaOpen
import Derived.WalkKit
import Derived.ProofKit
import Derived.OpenShut
import Derived.ShutString
import Derived.ChangeOld
import Derived.Below
import Derived.SizedLaws
import Derived.Test.YtedknmaaaaomoaaWSized
namespace Go.Proofs.Ytedknmaaaaomoaa.fnMarkdownSeparator
open Go.ChangeShapes Go.WideShapes Go.ChangeAt Go.RowKit Go.Proofs.Ytedknmaaaaomoaa Go.Proofs.Ytedknmaaaaomoaa.PFnMarkdownSeparator Go.Proofs.YtedknmaaaaomoaaW.PrintWords Go.Proofs.YtedknmaaaaomoaaW.PrintLast Go.Proofs.YtedknmaaaaomoaaW.PrintMore
open Go.ChangeMaps (open_string shut_string)
set_option linter.unusedVariables false
theorem own : ownKnob Try.prog.godebug = none := by kernel_rfl
theorem laidOut : laidOutB Try.prog = true := by kernel_rfl
theorem opens0 : Open.Opens Try.prog 29 k29 (fun x => ((x.f0.length * 16 ≤ 140737488351232 ∧ x.f0.length ≤ maxLen ∧ ∀ yxf0 ∈ x.f0, yxf0.size ≤ 140737488351232) ∧ ((Lit.int .i64 x.f1).wf = true ∧ (True ∧ ((x.f3.length * 8 ≤ 140737488351232 ∧ x.f3.length ≤ maxLen ∧ ∀ yxf3 ∈ x.f3, (Lit.int .i64 yxf3).wf = true) ∧ ((x.f4.length * 8 ≤ 140737488351232 ∧ x.f4.length ≤ maxLen ∧ ∀ yxf4 ∈ x.f4, (Lit.int .i64 yxf4).wf = true) ∧ ((Lit.int .i64 x.f5).wf = true ∧ ((Lit.int .i64 x.f6).wf = true)))))))) :=
  (Open.opens_struct Try.underlying29 (by kernel_rfl) (Open.opens_fields (n := 1) (Open.opens_slice Try.underlying27 (by kernel_rfl) (Open.opens_string Try.underlying9 (by kernel_rfl)) (by kernel_rfl)) rfl (by kernel_rfl) (Open.opens_fields (n := 1) (Open.opens_int Try.underlying3 (by kernel_rfl)) rfl (by kernel_rfl) (Open.opens_fields (n := 1) (Open.opens_bool Try.underlying4 (by kernel_rfl)) rfl (by kernel_rfl) (Open.opens_fields (n := 1) (Open.opens_slice Try.underlying22 (by kernel_rfl) (Open.opens_int Try.underlying3 (by kernel_rfl)) (by kernel_rfl)) rfl (by kernel_rfl) (Open.opens_fields (n := 1) (Open.opens_slice Try.underlying22 (by kernel_rfl) (Open.opens_int Try.underlying3 (by kernel_rfl)) (by kernel_rfl)) rfl (by kernel_rfl) (Open.opens_fields (n := 1) (Open.opens_int Try.underlying3 (by kernel_rfl)) rfl (by kernel_rfl) (Open.opens_field (n := 1) (Open.opens_int Try.underlying3 (by kernel_rfl)) rfl (by kernel_rfl)))))))) (fun x : S29 => (x.f0, x.f1, x.f2, x.f3, x.f4, x.f5, x.f6)) (fun p => ⟨p.1, p.2.1, p.2.2.1, p.2.2.2.1, p.2.2.2.2.1, p.2.2.2.2.2.1, p.2.2.2.2.2.2⟩) (fun _ => rfl))
set_option maxRecDepth 100000 in
theorem lifted (os : Os) (started : os.Started) (H : Type) (enc : TypeId × Value → H) :
    ReturnsInHanded {} Try.checked os 4 .any (Rows.fnMarkdownSeparatorSpec.pre6 enc Try.prog Try.f4 Rows.fnMarkdownSeparatorRow.domain false) (Rows.fnMarkdownSeparatorSpec.post enc Try.prog Try.f4 false true false false) := by
  refine returnsInHanded_of_change_sized (C := Try.checked) own started (by kernel_rfl) Try.func4
    (ChangeSpec.witness6 (enc := enc) (C := Try.checked) false ⟨#[], #[.agg #[.slice none 0 0, .int .i64 0, .bool false, .slice none 0 0, .slice none 0 0, .int .i64 0, .int .i64 0]], []⟩ 8 (by kernel_rfl) (by kernel_rfl) (by kernel_rfl) (by kernel_rfl)) ?_
  intro W base args ds gs before hval0 hW hcnd hsz0 _
  have hsz : (DataW.weightsEach Try.prog (Try.f4.params.toList ++ Rows.fnMarkdownSeparatorSpec.plain.varTypes Try.prog) (ds ++ gs)).all (· ≤ reachBytes) = true := hsz0
  have hval : ∀ (j : Nat) t v, Try.f4.params[j]? = some t → args[j]? = some v → Value.okWide Try.prog W .any base t v := hval0
  have hW' := hW
  obtain ⟨p, q, hA0, hV, rfl, hfz, hnd⟩ := hW
  have hA : DataW.TrodAll enc Try.prog W 0 (fun _ => true) true Try.f4.params.toList args.toList ds p := hA0
  rw [Try.params4] at hA hval hsz
  obtain ⟨v0, vs0, d0, ds0, p0, q0, hargs, rfl, rfl, h0, r0⟩ := trodAll_cons hA
  obtain ⟨rfl, rfl, rfl⟩ := trodAll_nil r0
  obtain rfl : args = #[v0] := by cases args; simp_all
  obtain ⟨rfl, rfl⟩ := trodVars_none hV
  have k0 := h0
  have lt0 : ∀ x ∈ p0, x.block < W.heap.size := by obtain ⟨m, hm⟩ := k0; exact DataW.trod_lt m _ _ _ hm
  obtain ⟨cs0, x0, rfl, hK0, w0⟩ := Open.open_rec opens0 Try.underlying29 (hval 0 29 v0 rfl rfl) h0 (Open.param hsz (j := 0) (t := 29) rfl rfl)
  obtain ⟨_, _, rfl, ⟨A0_0, c0_0, rfl, hc0_0, hr0_0⟩, ⟨_, _, rfl, rfl, ⟨_, _, rfl, rfl, ⟨_, _, rfl, ⟨A0_3, c0_3, rfl, hc0_3, hr0_3⟩, ⟨_, _, rfl, ⟨A0_4, c0_4, rfl, hc0_4, hr0_4⟩, ⟨_, _, rfl, rfl, rfl⟩⟩⟩⟩⟩⟩ := hK0
  obtain ⟨k, h⟩ := Pure.FnMarkdownSeparator x0.f0 x0.f1 x0.f2 x0.f3 x0.f4 x0.f5 x0.f6 w0.1 w0.2.1 w0.2.2.2.1 w0.2.2.2.2.1 w0.2.2.2.2.2.1 w0.2.2.2.2.2.2
  clear hA0 hval0 hsz0 hsz
  refine (laws_FnMarkdownSeparator.calls k A0_0 c0_0 x0.f0 x0.f1 x0.f2 A0_3 c0_3 x0.f3 A0_4 c0_4 x0.f4 x0.f5 x0.f6 true W hr0_0 hc0_0 hr0_3 hc0_3 hr0_4 hc0_4 h).mono fun e W' hh => ?_
  obtain ⟨rfl, bel0⟩ := hh
  have bel : Below W.heap.size W W' := bel0
  exact ⟨_, rfl, _, _, _, [], _, [], hW', trodAll_mk1 (shut_bool Try.underlying4 _), (trodAll_cons_mk (Below.trod laidOut (by kernel_rfl) (of_decide_eq_true (by kernel_rfl)) k0 bel lt0) trodAll_mk0), rfl, bel.frame _, fun h => by cases h⟩
theorem over : Rows.fnMarkdownSeparatorRow.holds Try.pinned (OpenSpec.ofChange Rows.fnMarkdownSeparatorSpec) :=
  OpenClaim.holds_of_wide 4 Try.f4 rfl rfl rfl rfl rfl rfl rfl ⟨rfl, rfl, rfl, rfl, rfl⟩ rfl rfl rfl rfl rfl (by kernel_rfl) Try.func4 (by kernel_rfl)
    (of_decide_eq_true (by kernel_rfl)) (by unfold Func.isWrapper; first | (rw [if_pos (by decide +kernel)]; kernel_rfl) | (rw [if_neg (by decide +kernel)]; exact ⟨rfl, rfl⟩))
    (fun os started H enc _ => lifted os started H enc)
theorem proved : Rows.FnMarkdownSeparatorSaid := over
#print axioms proved
end Go.Proofs.Ytedknmaaaaomoaa.fnMarkdownSeparator
namespace Go.Proofs.Ytedknmaaaaomoaa
/-- The row, under a short name, for the claim. -/
theorem fnMarkdownSeparator_holds : Rows.FnMarkdownSeparatorSaid := fnMarkdownSeparator.proved
end Go.Proofs.Ytedknmaaaaomoaa
