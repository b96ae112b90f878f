-- Written by hprint.py, a program of this session
import Derived.Test.YtimefacdnabkdabRows
import Derived.Test.YtimefacdnabkdabPFnCaptionx3
import Derived.Test.YtimefacdnabkdabPureFnCaption
import Derived.Test.YtimefacdnabkdabOpen
import Derived.WalkKit
import Derived.ProofKit
import Derived.OpenShut
import Derived.ShutString
import Derived.ChangeOld
import Derived.Below
import Derived.SizedLaws
import Derived.Test.YtimefacdnabkdabWSized
namespace Go.Proofs.Ytimefacdnabkdab.fnCaption
open Go.ChangeShapes Go.WideShapes Go.ChangeAt Go.RowKit Go.Proofs.Ytimefacdnabkdab Go.Proofs.Ytimefacdnabkdab.PFnCaption Go.Proofs.YtimefacdnabkdabW.PrintWords Go.Proofs.YtimefacdnabkdabW.PrintLast Go.Proofs.YtimefacdnabkdabW.PrintMore
open Go.ChangeMaps (open_string shut_string)
set_option linter.unusedVariables false
theorem own : ownKnob Try.prog.godebug = none := by kernel_rfl
theorem laidOut : laidOutB Try.prog = true := by kernel_rfl
theorem opens0 : Open.Opens Try.prog 23 k23 (fun x => (x.f0.size ≤ 140737488351232 ∧ ((Lit.int .i64 x.f1).wf = true ∧ (x.f2.size ≤ 140737488351232 ∧ ((Lit.int .i64 x.f3).wf = true))))) :=
  (Open.opens_struct Try.underlying23 (by kernel_rfl) (Open.opens_fields (n := 1) (Open.opens_string Try.underlying9 (by kernel_rfl)) rfl (by kernel_rfl) (Open.opens_fields (n := 1) (Open.opens_int Try.underlying3 (by kernel_rfl)) rfl (by kernel_rfl) (Open.opens_fields (n := 1) (Open.opens_string Try.underlying9 (by kernel_rfl)) rfl (by kernel_rfl) (Open.opens_field (n := 1) (Open.opens_int Try.underlying3 (by kernel_rfl)) rfl (by kernel_rfl))))) (fun x : S23 => (x.f0, x.f1, x.f2, x.f3)) (fun p => ⟨p.1, p.2.1, p.2.2.1, p.2.2.2⟩) (fun _ => rfl))
theorem opens1 : Open.Opens Try.prog 23 k23 (fun x => (x.f0.size ≤ 140737488351232 ∧ ((Lit.int .i64 x.f1).wf = true ∧ (x.f2.size ≤ 140737488351232 ∧ ((Lit.int .i64 x.f3).wf = true))))) :=
  (Open.opens_struct Try.underlying23 (by kernel_rfl) (Open.opens_fields (n := 1) (Open.opens_string Try.underlying9 (by kernel_rfl)) rfl (by kernel_rfl) (Open.opens_fields (n := 1) (Open.opens_int Try.underlying3 (by kernel_rfl)) rfl (by kernel_rfl) (Open.opens_fields (n := 1) (Open.opens_string Try.underlying9 (by kernel_rfl)) rfl (by kernel_rfl) (Open.opens_field (n := 1) (Open.opens_int Try.underlying3 (by kernel_rfl)) rfl (by kernel_rfl))))) (fun x : S23 => (x.f0, x.f1, x.f2, x.f3)) (fun p => ⟨p.1, p.2.1, p.2.2.1, p.2.2.2⟩) (fun _ => rfl))
theorem opens2 : Open.Opens Try.prog 24 (Kd.slice 5 (Kd.int .u8)) (fun x => (x.length * 1 ≤ 140737488351232 ∧ x.length ≤ maxLen ∧ ∀ yx ∈ x, (Lit.int .u8 yx).wf = true)) :=
  (Open.opens_slice Try.underlying24 (by kernel_rfl) (Open.opens_int Try.underlying5 (by kernel_rfl)) (by kernel_rfl))
set_option maxRecDepth 100000 in
theorem lifted (os : Os) (started : os.Started) (H : Type) (enc : TypeId × Value → H) :
    ReturnsInHanded {} Try.checked os 3 .any (Rows.fnCaptionSpec.pre6 enc Try.prog Try.f3 Rows.fnCaptionRow.domain false) (Rows.fnCaptionSpec.post enc Try.prog Try.f3 false true false false) := by
  refine returnsInHanded_of_change_sized (C := Try.checked) own started (by kernel_rfl) Try.func3
    (ChangeSpec.witness6 (enc := enc) (C := Try.checked) false ⟨#[], #[.agg #[.string ByteArray.empty, .int .i64 0, .string ByteArray.empty, .int .i64 0], .agg #[.string ByteArray.empty, .int .i64 0, .string ByteArray.empty, .int .i64 0], .slice none 0 0], []⟩ 8 (by kernel_rfl) (by kernel_rfl) (by kernel_rfl) (by kernel_rfl)) ?_
  intro W base args ds gs before hval0 hW hcnd hsz0 _
  have hsz : (DataW.weightsEach Try.prog (Try.f3.params.toList ++ Rows.fnCaptionSpec.plain.varTypes Try.prog) (ds ++ gs)).all (· ≤ reachBytes) = true := hsz0
  have hval : ∀ (j : Nat) t v, Try.f3.params[j]? = some t → args[j]? = some v → Value.okWide Try.prog W .any base t v := hval0
  have hW' := hW
  obtain ⟨p, q, hA0, hV, rfl, hfz, hnd⟩ := hW
  have hA : DataW.TrodAll enc Try.prog W 0 (fun _ => true) true Try.f3.params.toList args.toList ds p := hA0
  rw [Try.params3] at hA hval hsz
  obtain ⟨v0, vs0, d0, ds0, p0, q0, hargs, rfl, rfl, h0, r0⟩ := trodAll_cons hA
  obtain ⟨v1, vs1, d1, ds1, p1, q1, rfl, rfl, rfl, h1, r1⟩ := trodAll_cons r0
  obtain ⟨v2, vs2, d2, ds2, p2, q2, rfl, rfl, rfl, h2, r2⟩ := trodAll_cons r1
  obtain ⟨rfl, rfl, rfl⟩ := trodAll_nil r2
  obtain rfl : args = #[v0, v1, v2] := by cases args; simp_all
  obtain ⟨rfl, rfl⟩ := trodVars_none hV
  have k0 := h0
  have lt0 : ∀ x ∈ p0, x.block < W.heap.size := by obtain ⟨m, hm⟩ := k0; exact DataW.trod_lt m _ _ _ hm
  obtain ⟨cs0, x0, rfl, hK0, w0⟩ := Open.open_rec opens0 Try.underlying23 (hval 0 23 v0 rfl rfl) h0 (Open.param hsz (j := 0) (t := 23) rfl rfl)
  obtain ⟨_, _, rfl, rfl, ⟨_, _, rfl, rfl, ⟨_, _, rfl, rfl, rfl⟩⟩⟩ := hK0
  have k1 := h1
  have lt1 : ∀ x ∈ p1, x.block < W.heap.size := by obtain ⟨m, hm⟩ := k1; exact DataW.trod_lt m _ _ _ hm
  obtain ⟨cs1, x1, rfl, hK1, w1⟩ := Open.open_rec opens1 Try.underlying23 (hval 1 23 v1 rfl rfl) h1 (Open.param hsz (j := 1) (t := 23) rfl rfl)
  obtain ⟨_, _, rfl, rfl, ⟨_, _, rfl, rfl, ⟨_, _, rfl, rfl, rfl⟩⟩⟩ := hK1
  have k2 := h2
  have lt2 : ∀ x ∈ p2, x.block < W.heap.size := by obtain ⟨m, hm⟩ := k2; exact DataW.trod_lt m _ _ _ hm
  obtain ⟨A2, c2, l2, rfl, hc2, hr2, w2⟩ := Open.open_row opens2 Try.underlying24 (hval 2 24 v2 rfl rfl) h2 (Open.param hsz (j := 2) (t := 24) rfl rfl)
  obtain ⟨k, h⟩ := Pure.FnCaption x0.f0 x0.f1 x0.f2 x0.f3 x1.f0 x1.f1 x1.f2 x1.f3 l2 w0.1 w0.2.1 w0.2.2.1 w0.2.2.2 w1.1 w1.2.1 w1.2.2.1 w1.2.2.2 w2
  clear hA0 hval0 hsz0 hsz
  refine (laws_FnCaption.calls k x0.f0 x0.f1 x0.f2 x0.f3 x1.f0 x1.f1 x1.f2 x1.f3 A2 c2 l2 true W hr2 hc2 h).mono fun e W' hh => ?_
  obtain ⟨rfl, bel0⟩ := hh
  have bel : Below W.heap.size W W' := bel0
  exact ⟨_, rfl, _, _, _, [], _, [], hW', trodAll_mk1 (shut_bool Try.underlying4 _), (trodAll_cons_mk (Below.trod laidOut (by kernel_rfl) (of_decide_eq_true (by kernel_rfl)) k0 bel lt0) (trodAll_cons_mk (Below.trod laidOut (by kernel_rfl) (of_decide_eq_true (by kernel_rfl)) k1 bel lt1) (trodAll_cons_mk (Below.trod laidOut (by kernel_rfl) (of_decide_eq_true (by kernel_rfl)) k2 bel lt2) trodAll_mk0))), rfl, bel.frame _, fun h => by cases h⟩
theorem over : Rows.fnCaptionRow.holds Try.pinned (OpenSpec.ofChange Rows.fnCaptionSpec) :=
  OpenClaim.holds_of_wide 3 Try.f3 rfl rfl rfl rfl rfl rfl rfl ⟨rfl, rfl, rfl, rfl, rfl⟩ rfl rfl rfl rfl rfl (by kernel_rfl) Try.func3 (by kernel_rfl)
    (of_decide_eq_true (by kernel_rfl)) (by unfold Func.isWrapper; first | (rw [if_pos (by decide +kernel)]; kernel_rfl) | (rw [if_neg (by decide +kernel)]; exact ⟨rfl, rfl⟩))
    (fun os started H enc _ => lifted os started H enc)
theorem proved : Rows.FnCaptionSaid := over
#print axioms proved
end Go.Proofs.Ytimefacdnabkdab.fnCaption
namespace Go.Proofs.Ytimefacdnabkdab
/-- The row, under a short name, for the claim. -/
theorem fnCaption_holds : Rows.FnCaptionSaid := fnCaption.proved
end Go.Proofs.Ytimefacdnabkdab
