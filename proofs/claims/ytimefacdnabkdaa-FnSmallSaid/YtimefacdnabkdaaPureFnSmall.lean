/- The greater and the smaller one of two numbers, and one of two texts. No condition. -/
import Derived.Test.YtimefacdnabkdaaPFnSmallx1
namespace Go.Proofs.Ytimefacdnabkdaa.Pure
open Go.RowKit Go.Proofs.Ytimefacdnabkdaa.PFnSmall Go.Proofs.YtimefacdnabkdaaW.PrintWords Go.Proofs.YtimefacdnabkdaaW.PrintLast

theorem small_j0 (a b : Int) (c : Bool) (s t : ByteArray) (e : Bool) : laws_FnSmall.j0 1 a b c s t e = some true := by
  simp only [laws_FnSmall.j0]
  have hmax : impl_TwMax.f a b = some (mx a b) := by
    unfold impl_TwMax.f tw_Max.f mx
    by_cases h : a > b
    · rw [if_pos h]; simp only [Option.bind_some]; congr 1; omega
    · rw [if_neg h]; simp only [Option.bind_some]; congr 1; omega
  have hmin : impl_TwMin.f a b = some (mn a b) := by
    unfold impl_TwMin.f tw_Min.f mn
    by_cases h : a < b
    · rw [if_pos h]; simp only [Option.bind_some]; congr 1; omega
    · rw [if_neg h]; simp only [Option.bind_some]; congr 1; omega
  rw [hmax, hmin]
  cases e with
  | true => simp
  | false =>
    cases c with
    | true => simp [impl_TwOr.f, tw_Or.f]
    | false => simp [impl_TwOr.f, tw_Or.f]

theorem FnSmall : laws_FnSmall.Pure := by
  intro a b c s t _ _ _ _
  refine ⟨1, ?_⟩
  unfold laws_FnSmall.f
  split
  · exact small_j0 ..
  · exact small_j0 ..

end Go.Proofs.Ytimefacdnabkdaa.Pure
