-- Written by hprint.py, a program of this session
import Derived.Test.YtimefacdnabkdabRows
import Derived.Test.YtimefacdnabkdabPFnTsvRowx3
import Derived.Test.YtimefacdnabkdabPureFnTsvRow
import Derived.Test.YtimefacdnabkdabOpen
import Derived.WalkKit
import Derived.ProofKit
import Derived.OpenShut
import Derived.ShutString
import Derived.ChangeOld
import Derived.Below
import Derived.SizedLaws
import Derived.Test.YtimefacdnabkdabWSized
namespace Go.Proofs.Ytimefacdnabkdab.fnTsvRow
open Go.ChangeShapes Go.WideShapes Go.ChangeAt Go.RowKit Go.Proofs.Ytimefacdnabkdab Go.Proofs.Ytimefacdnabkdab.PFnTsvRow Go.Proofs.YtimefacdnabkdabW.PrintWords Go.Proofs.YtimefacdnabkdabW.PrintLast Go.Proofs.YtimefacdnabkdabW.PrintMore
open Go.ChangeMaps (open_string shut_string)
set_option linter.unusedVariables false
theorem own : ownKnob Try.prog.godebug = none := by kernel_rfl
theorem laidOut : laidOutB Try.prog = true := by kernel_rfl
theorem opens0 : Open.Opens Try.prog 34 (Kd.slice 9 Kd.string) (fun x => (x.length * 16 ≤ 140737488351232 ∧ x.length ≤ maxLen ∧ ∀ yx ∈ x, yx.size ≤ 140737488351232)) :=
  (Open.opens_slice Try.underlying34 (by kernel_rfl) (Open.opens_string Try.underlying9 (by kernel_rfl)) (by kernel_rfl))
set_option maxRecDepth 100000 in
theorem lifted (os : Os) (started : os.Started) (H : Type) (enc : TypeId × Value → H) :
    ReturnsInHanded {} Try.checked os 5 .any (Rows.fnTsvRowSpec.pre6 enc Try.prog Try.f5 Rows.fnTsvRowRow.domain false) (Rows.fnTsvRowSpec.post enc Try.prog Try.f5 false true false false) := by
  refine returnsInHanded_of_change_sized (C := Try.checked) own started (by kernel_rfl) Try.func5
    (ChangeSpec.witness6 (enc := enc) (C := Try.checked) false ⟨#[], #[.slice none 0 0, .int .i64 0, .bool false, .int .i64 0], []⟩ 8 (by kernel_rfl) (by kernel_rfl) (by kernel_rfl) (by kernel_rfl)) ?_
  intro W base args ds gs before hval0 hW hcnd hsz0 _
  have hsz : (DataW.weightsEach Try.prog (Try.f5.params.toList ++ Rows.fnTsvRowSpec.plain.varTypes Try.prog) (ds ++ gs)).all (· ≤ reachBytes) = true := hsz0
  have hval : ∀ (j : Nat) t v, Try.f5.params[j]? = some t → args[j]? = some v → Value.okWide Try.prog W .any base t v := hval0
  have hW' := hW
  obtain ⟨p, q, hA0, hV, rfl, hfz, hnd⟩ := hW
  have hA : DataW.TrodAll enc Try.prog W 0 (fun _ => true) true Try.f5.params.toList args.toList ds p := hA0
  rw [Try.params5] at hA hval hsz
  obtain ⟨v0, vs0, d0, ds0, p0, q0, hargs, rfl, rfl, h0, r0⟩ := trodAll_cons hA
  obtain ⟨v1, vs1, d1, ds1, p1, q1, rfl, rfl, rfl, h1, r1⟩ := trodAll_cons r0
  obtain ⟨v2, vs2, d2, ds2, p2, q2, rfl, rfl, rfl, h2, r2⟩ := trodAll_cons r1
  obtain ⟨v3, vs3, d3, ds3, p3, q3, rfl, rfl, rfl, h3, r3⟩ := trodAll_cons r2
  obtain ⟨rfl, rfl, rfl⟩ := trodAll_nil r3
  obtain rfl : args = #[v0, v1, v2, v3] := by cases args; simp_all
  obtain ⟨rfl, rfl⟩ := trodVars_none hV
  have k0 := h0
  have lt0 : ∀ x ∈ p0, x.block < W.heap.size := by obtain ⟨m, hm⟩ := k0; exact DataW.trod_lt m _ _ _ hm
  obtain ⟨A0, c0, l0, rfl, hc0, hr0, w0⟩ := Open.open_row opens0 Try.underlying34 (hval 0 34 v0 rfl rfl) h0 (Open.param hsz (j := 0) (t := 34) rfl rfl)
  obtain ⟨a1, rfl, rfl, rfl, w1⟩ := open_int Try.underlying3 (hval 1 3 v1 rfl rfl) h1
  obtain ⟨a2, rfl, rfl, rfl⟩ := open_bool Try.underlying4 (hval 2 4 v2 rfl rfl) h2
  obtain ⟨a3, rfl, rfl, rfl, w3⟩ := open_int Try.underlying3 (hval 3 3 v3 rfl rfl) h3
  obtain ⟨k, h⟩ := Pure.FnTsvRow l0 a1 a2 a3 w0 w1 w3
  clear hA0 hval0 hsz0 hsz
  refine (laws_FnTsvRow.calls k A0 c0 l0 a1 a2 a3 true W hr0 hc0 h).mono fun e W' hh => ?_
  obtain ⟨rfl, bel0⟩ := hh
  have bel : Below W.heap.size W W' := bel0
  exact ⟨_, rfl, _, _, _, [], _, [], hW', trodAll_mk1 (shut_bool Try.underlying4 _), (trodAll_cons_mk (Below.trod laidOut (by kernel_rfl) (of_decide_eq_true (by kernel_rfl)) k0 bel lt0) (trodAll_cons_mk (shut_int Try.underlying3 w1) (trodAll_cons_mk (shut_bool Try.underlying4 _) (trodAll_cons_mk (shut_int Try.underlying3 w3) trodAll_mk0)))), rfl, bel.frame _, fun h => by cases h⟩
theorem over : Rows.fnTsvRowRow.holds Try.pinned (OpenSpec.ofChange Rows.fnTsvRowSpec) :=
  OpenClaim.holds_of_wide 5 Try.f5 rfl rfl rfl rfl rfl rfl rfl ⟨rfl, rfl, rfl, rfl, rfl⟩ rfl rfl rfl rfl rfl (by kernel_rfl) Try.func5 (by kernel_rfl)
    (of_decide_eq_true (by kernel_rfl)) (by unfold Func.isWrapper; first | (rw [if_pos (by decide +kernel)]; kernel_rfl) | (rw [if_neg (by decide +kernel)]; exact ⟨rfl, rfl⟩))
    (fun os started H enc _ => lifted os started H enc)
theorem proved : Rows.FnTsvRowSaid := over
#print axioms proved
end Go.Proofs.Ytimefacdnabkdab.fnTsvRow
namespace Go.Proofs.Ytimefacdnabkdab
/-- The row, under a short name, for the claim. -/
theorem fnTsvRow_holds : Rows.FnTsvRowSaid := fnTsvRow.proved
end Go.Proofs.Ytimefacdnabkdab
