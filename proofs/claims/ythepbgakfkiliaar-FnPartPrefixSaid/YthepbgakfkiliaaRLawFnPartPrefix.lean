-- Written by hprint.py, a program of this session
import Derived.Test.YthepbgakfkiliaaRRows
import Derived.Test.YthepbgakfkiliaaRPFnPartPrefixx2
import Derived.Test.YthepbgakfkiliaaRPureFnPartPrefix
import Derived.Test.YthepbgakfkiliaaROpen
import Derived.WalkKit
import Derived.ProofKit
import Derived.OpenShut
import Derived.ShutString
import Derived.ChangeOld
import Derived.Below
import Derived.SizedLaws
import Derived.Test.YthepbgakfkiliaaRWSized
namespace Go.Proofs.YthepbgakfkiliaaR.fnPartPrefix
open Go.ChangeShapes Go.WideShapes Go.ChangeAt Go.RowKit Go.Proofs.YthepbgakfkiliaaR Go.Proofs.YthepbgakfkiliaaR.PFnPartPrefix Go.Proofs.YthepbgakfkiliaaRW.PrintWords Go.Proofs.YthepbgakfkiliaaRW.PrintLast Go.Proofs.YthepbgakfkiliaaRW.PrintMore
open Go.ChangeMaps (open_string shut_string)
set_option linter.unusedVariables false
theorem own : ownKnob Try.prog.godebug = none := by kernel_rfl
theorem laidOut : laidOutB Try.prog = true := by kernel_rfl
theorem opens0 : Open.Opens Try.prog 22 (Kd.slice 3 (Kd.int .i64)) (fun x => (x.length * 8 ≤ 140737488351232 ∧ x.length ≤ maxLen ∧ ∀ yx ∈ x, (Lit.int .i64 yx).wf = true)) :=
  (Open.opens_slice Try.underlying22 (by kernel_rfl) (Open.opens_int Try.underlying3 (by kernel_rfl)) (by kernel_rfl))
theorem opens2 : Open.Opens Try.prog 24 k24 (fun x => ((Lit.int .i64 x.f0).wf = true ∧ (x.f1.size ≤ 140737488351232 ∧ (x.f2.size ≤ 140737488351232 ∧ (x.f3.size ≤ 140737488351232 ∧ (x.f4.size ≤ 140737488351232 ∧ (x.f5.size ≤ 140737488351232 ∧ (x.f6.size ≤ 140737488351232 ∧ (x.f7.size ≤ 140737488351232 ∧ (x.f8.size ≤ 140737488351232)))))))))) :=
  (Open.opens_struct Try.underlying24 (by kernel_rfl) (Open.opens_fields (n := 1) (Open.opens_int Try.underlying3 (by kernel_rfl)) rfl (by kernel_rfl) (Open.opens_fields (n := 1) (Open.opens_string Try.underlying9 (by kernel_rfl)) rfl (by kernel_rfl) (Open.opens_fields (n := 1) (Open.opens_string Try.underlying9 (by kernel_rfl)) rfl (by kernel_rfl) (Open.opens_fields (n := 1) (Open.opens_string Try.underlying9 (by kernel_rfl)) rfl (by kernel_rfl) (Open.opens_fields (n := 1) (Open.opens_string Try.underlying9 (by kernel_rfl)) rfl (by kernel_rfl) (Open.opens_fields (n := 1) (Open.opens_string Try.underlying9 (by kernel_rfl)) rfl (by kernel_rfl) (Open.opens_fields (n := 1) (Open.opens_string Try.underlying9 (by kernel_rfl)) rfl (by kernel_rfl) (Open.opens_fields (n := 1) (Open.opens_string Try.underlying9 (by kernel_rfl)) rfl (by kernel_rfl) (Open.opens_field (n := 1) (Open.opens_string Try.underlying9 (by kernel_rfl)) rfl (by kernel_rfl)))))))))) (fun x : S24 => (x.f0, x.f1, x.f2, x.f3, x.f4, x.f5, x.f6, x.f7, x.f8)) (fun p => ⟨p.1, p.2.1, p.2.2.1, p.2.2.2.1, p.2.2.2.2.1, p.2.2.2.2.2.1, p.2.2.2.2.2.2.1, p.2.2.2.2.2.2.2.1, p.2.2.2.2.2.2.2.2⟩) (fun _ => rfl))
set_option maxRecDepth 100000 in
theorem lifted (os : Os) (started : os.Started) (H : Type) (enc : TypeId × Value → H) :
    ReturnsInHanded {} Try.checked os 3 .any (Rows.fnPartPrefixSpec.pre6 enc Try.prog Try.f3 Rows.fnPartPrefixRow.domain false) (Rows.fnPartPrefixSpec.post enc Try.prog Try.f3 false true false false) := by
  refine returnsInHanded_of_change_sized (C := Try.checked) own started (by kernel_rfl) Try.func3
    (ChangeSpec.witness6 (enc := enc) (C := Try.checked) false ⟨#[], #[.slice none 0 0, .int .i64 0, .agg #[.int .i64 0, .string ByteArray.empty, .string ByteArray.empty, .string ByteArray.empty, .string ByteArray.empty, .string ByteArray.empty, .string ByteArray.empty, .string ByteArray.empty, .string ByteArray.empty]], []⟩ 8 (by kernel_rfl) (by kernel_rfl) (by kernel_rfl) (by kernel_rfl)) ?_
  intro W base args ds gs before hval0 hW hcnd hsz0 _
  have hsz : (DataW.weightsEach Try.prog (Try.f3.params.toList ++ Rows.fnPartPrefixSpec.plain.varTypes Try.prog) (ds ++ gs)).all (· ≤ reachBytes) = true := hsz0
  have hval : ∀ (j : Nat) t v, Try.f3.params[j]? = some t → args[j]? = some v → Value.okWide Try.prog W .any base t v := hval0
  have hW' := hW
  obtain ⟨p, q, hA0, hV, rfl, hfz, hnd⟩ := hW
  have hA : DataW.TrodAll enc Try.prog W 0 (fun _ => true) true Try.f3.params.toList args.toList ds p := hA0
  rw [Try.params3] at hA hval hsz
  obtain ⟨v0, vs0, d0, ds0, p0, q0, hargs, rfl, rfl, h0, r0⟩ := trodAll_cons hA
  obtain ⟨v1, vs1, d1, ds1, p1, q1, rfl, rfl, rfl, h1, r1⟩ := trodAll_cons r0
  obtain ⟨v2, vs2, d2, ds2, p2, q2, rfl, rfl, rfl, h2, r2⟩ := trodAll_cons r1
  obtain ⟨rfl, rfl, rfl⟩ := trodAll_nil r2
  obtain rfl : args = #[v0, v1, v2] := by cases args; simp_all
  obtain ⟨rfl, rfl⟩ := trodVars_none hV
  have k0 := h0
  have lt0 : ∀ x ∈ p0, x.block < W.heap.size := by obtain ⟨m, hm⟩ := k0; exact DataW.trod_lt m _ _ _ hm
  obtain ⟨A0, c0, l0, rfl, hc0, hr0, w0⟩ := Open.open_row opens0 Try.underlying22 (hval 0 22 v0 rfl rfl) h0 (Open.param hsz (j := 0) (t := 22) rfl rfl)
  obtain ⟨a1, rfl, rfl, rfl, w1⟩ := open_int Try.underlying3 (hval 1 3 v1 rfl rfl) h1
  have k2 := h2
  have lt2 : ∀ x ∈ p2, x.block < W.heap.size := by obtain ⟨m, hm⟩ := k2; exact DataW.trod_lt m _ _ _ hm
  obtain ⟨cs2, x2, rfl, hK2, w2⟩ := Open.open_rec opens2 Try.underlying24 (hval 2 24 v2 rfl rfl) h2 (Open.param hsz (j := 2) (t := 24) rfl rfl)
  obtain ⟨_, _, rfl, rfl, ⟨_, _, rfl, rfl, ⟨_, _, rfl, rfl, ⟨_, _, rfl, rfl, ⟨_, _, rfl, rfl, ⟨_, _, rfl, rfl, ⟨_, _, rfl, rfl, ⟨_, _, rfl, rfl, rfl⟩⟩⟩⟩⟩⟩⟩⟩ := hK2
  obtain ⟨k, h⟩ := Pure.FnPartPrefix l0 a1 x2.f0 x2.f1 x2.f2 x2.f3 x2.f4 x2.f5 x2.f6 x2.f7 x2.f8 w0 w1 w2.1 w2.2.1 w2.2.2.1 w2.2.2.2.1 w2.2.2.2.2.1 w2.2.2.2.2.2.1 w2.2.2.2.2.2.2.1 w2.2.2.2.2.2.2.2.1 w2.2.2.2.2.2.2.2.2
  clear hA0 hval0 hsz0 hsz
  refine (laws_FnPartPrefix.calls k A0 c0 l0 a1 x2.f0 x2.f1 x2.f2 x2.f3 x2.f4 x2.f5 x2.f6 x2.f7 x2.f8 true W hr0 hc0 h).mono fun e W' hh => ?_
  obtain ⟨rfl, bel0⟩ := hh
  have bel : Below W.heap.size W W' := bel0
  exact ⟨_, rfl, _, _, _, [], _, [], hW', trodAll_mk1 (shut_bool Try.underlying4 _), (trodAll_cons_mk (Below.trod laidOut (by kernel_rfl) (of_decide_eq_true (by kernel_rfl)) k0 bel lt0) (trodAll_cons_mk (shut_int Try.underlying3 w1) (trodAll_cons_mk (Below.trod laidOut (by kernel_rfl) (of_decide_eq_true (by kernel_rfl)) k2 bel lt2) trodAll_mk0))), rfl, bel.frame _, fun h => by cases h⟩
theorem over : Rows.fnPartPrefixRow.holds Try.pinned (OpenSpec.ofChange Rows.fnPartPrefixSpec) :=
  OpenClaim.holds_of_wide 3 Try.f3 rfl rfl rfl rfl rfl rfl rfl ⟨rfl, rfl, rfl, rfl, rfl⟩ rfl rfl rfl rfl rfl (by kernel_rfl) Try.func3 (by kernel_rfl)
    (of_decide_eq_true (by kernel_rfl)) (by unfold Func.isWrapper; first | (rw [if_pos (by decide +kernel)]; kernel_rfl) | (rw [if_neg (by decide +kernel)]; exact ⟨rfl, rfl⟩))
    (fun os started H enc _ => lifted os started H enc)
theorem proved : Rows.FnPartPrefixSaid := over
#print axioms proved
end Go.Proofs.YthepbgakfkiliaaR.fnPartPrefix
namespace Go.Proofs.YthepbgakfkiliaaR
/-- The row, under a short name, for the claim. -/
theorem fnPartPrefix_holds : Rows.FnPartPrefixSaid := fnPartPrefix.proved
end Go.Proofs.YthepbgakfkiliaaR
