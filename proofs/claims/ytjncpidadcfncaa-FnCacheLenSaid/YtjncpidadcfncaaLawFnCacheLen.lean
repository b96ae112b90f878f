-- Written by hprint.py, a program of this session
import Derived.Test.YtjncpidadcfncaaRows
import Derived.Test.YtjncpidadcfncaaHandCacheJ
import Derived.Test.YtjncpidadcfncaaPureFnCacheLen
import Derived.Test.YtjncpidadcfncaaOpen
import Derived.WalkKit
import Derived.ProofKit
import Derived.OpenShut
import Derived.ShutString
import Derived.ChangeOld
import Derived.Below
import Derived.SizedLaws
import Derived.Test.YtjncpidadcfncaaWSized
namespace Go.Proofs.Ytjncpidadcfncaa.fnCacheLen
open Go.ChangeShapes Go.WideShapes Go.ChangeAt Go.RowKit Go.Proofs.Ytjncpidadcfncaa Go.Proofs.Ytjncpidadcfncaa.PFnCacheLen Go.Proofs.YtjncpidadcfncaaW.PrintWords Go.Proofs.YtjncpidadcfncaaW.PrintLast Go.Proofs.YtjncpidadcfncaaW.PrintMore
open Go.ChangeMaps (open_string shut_string)
set_option linter.unusedVariables false
theorem own : ownKnob Try.prog.godebug = none := by kernel_rfl
theorem laidOut : laidOutB Try.prog = true := by kernel_rfl
theorem opens1 : Open.Opens Try.prog 22 (Kd.slice 25 k25) (fun x => (x.length * 24 ≤ 140737488351232 ∧ x.length ≤ maxLen ∧ ∀ yx ∈ x, ((Lit.int .i64 yx.f0).wf = true ∧ ((Lit.int .i64 yx.f1).wf = true ∧ ((Lit.int .i64 yx.f2).wf = true))))) :=
  (Open.opens_slice Try.underlying22 (by kernel_rfl) (Open.opens_struct Try.underlying25 (by kernel_rfl) (Open.opens_fields (n := 1) (Open.opens_int Try.underlying3 (by kernel_rfl)) rfl (by kernel_rfl) (Open.opens_fields (n := 1) (Open.opens_int Try.underlying3 (by kernel_rfl)) rfl (by kernel_rfl) (Open.opens_field (n := 1) (Open.opens_int Try.underlying3 (by kernel_rfl)) rfl (by kernel_rfl)))) (fun x : S25 => (x.f0, x.f1, x.f2)) (fun p => ⟨p.1, p.2.1, p.2.2⟩) (fun _ => rfl)) (by kernel_rfl))
set_option maxRecDepth 100000 in
theorem lifted (os : Os) (started : os.Started) (H : Type) (enc : TypeId × Value → H) :
    ReturnsInHanded {} Try.checked os 3 .any (Rows.fnCacheLenSpec.pre6 enc Try.prog Try.f3 Rows.fnCacheLenRow.domain false) (Rows.fnCacheLenSpec.post enc Try.prog Try.f3 false true false false) := by
  refine returnsInHanded_of_change_sized (C := Try.checked) own started (by kernel_rfl) Try.func3
    (ChangeSpec.witness6 (enc := enc) (C := Try.checked) false ⟨#[], #[.int .u8 0, .slice none 0 0], []⟩ 8 (by kernel_rfl) (by kernel_rfl) (by kernel_rfl) (by kernel_rfl)) ?_
  intro W base args ds gs before hval0 hW hcnd hsz0 _
  have hsz : (DataW.weightsEach Try.prog (Try.f3.params.toList ++ Rows.fnCacheLenSpec.plain.varTypes Try.prog) (ds ++ gs)).all (· ≤ reachBytes) = true := hsz0
  have hval : ∀ (j : Nat) t v, Try.f3.params[j]? = some t → args[j]? = some v → Value.okWide Try.prog W .any base t v := hval0
  have hW' := hW
  obtain ⟨p, q, hA0, hV, rfl, hfz, hnd⟩ := hW
  have hA : DataW.TrodAll enc Try.prog W 0 (fun _ => true) true Try.f3.params.toList args.toList ds p := hA0
  rw [Try.params3] at hA hval hsz
  obtain ⟨v0, vs0, d0, ds0, p0, q0, hargs, rfl, rfl, h0, r0⟩ := trodAll_cons hA
  obtain ⟨v1, vs1, d1, ds1, p1, q1, rfl, rfl, rfl, h1, r1⟩ := trodAll_cons r0
  obtain ⟨rfl, rfl, rfl⟩ := trodAll_nil r1
  obtain rfl : args = #[v0, v1] := by cases args; simp_all
  obtain ⟨rfl, rfl⟩ := trodVars_none hV
  obtain ⟨a0, rfl, rfl, rfl, w0⟩ := open_int Try.underlying5 (hval 0 5 v0 rfl rfl) h0
  have k1 := h1
  have lt1 : ∀ x ∈ p1, x.block < W.heap.size := by obtain ⟨m, hm⟩ := k1; exact DataW.trod_lt m _ _ _ hm
  obtain ⟨A1, c1, l1, rfl, hc1, hr1, w1⟩ := Open.open_row opens1 Try.underlying22 (hval 1 22 v1 rfl rfl) h1 (Open.param hsz (j := 1) (t := 22) rfl rfl)
  have h := Pure.FnCacheLen a0 l1 w0 w1
  clear hA0 hval0 hsz0 hsz
  refine (laws_FnCacheLen.calls a0 A1 c1 l1 true W hr1 hc1 h).mono fun e W' hh => ?_
  obtain ⟨rfl, bel0⟩ := hh
  have bel : Below W.heap.size W W' := bel0
  exact ⟨_, rfl, _, _, _, [], _, [], hW', trodAll_mk1 (shut_bool Try.underlying4 _), (trodAll_cons_mk (shut_int Try.underlying5 w0) (trodAll_cons_mk (Below.trod laidOut (by kernel_rfl) (of_decide_eq_true (by kernel_rfl)) k1 bel lt1) trodAll_mk0)), rfl, bel.frame _, fun h => by cases h⟩
theorem over : Rows.fnCacheLenRow.holds Try.pinned (OpenSpec.ofChange Rows.fnCacheLenSpec) :=
  OpenClaim.holds_of_wide 3 Try.f3 rfl rfl rfl rfl rfl rfl rfl ⟨rfl, rfl, rfl, rfl, rfl⟩ rfl rfl rfl rfl rfl (by kernel_rfl) Try.func3 (by kernel_rfl)
    (of_decide_eq_true (by kernel_rfl)) (by unfold Func.isWrapper; first | (rw [if_pos (by decide +kernel)]; kernel_rfl) | (rw [if_neg (by decide +kernel)]; exact ⟨rfl, rfl⟩))
    (fun os started H enc _ => lifted os started H enc)
theorem proved : Rows.FnCacheLenSaid := over
#print axioms proved
end Go.Proofs.Ytjncpidadcfncaa.fnCacheLen
namespace Go.Proofs.Ytjncpidadcfncaa
/-- The row, under a short name, for the claim. -/
theorem fnCacheLen_holds : Rows.FnCacheLenSaid := fnCacheLen.proved
end Go.Proofs.Ytjncpidadcfncaa
