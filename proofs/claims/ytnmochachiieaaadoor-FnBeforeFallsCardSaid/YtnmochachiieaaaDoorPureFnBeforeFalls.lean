/- A falling mode is the rising one, turned: over any two texts and any mode, the law's function answers true. -/
import Derived.Test.YtnmochachiieaaaDoorPLawBeforeFallsx1
import Derived.Test.YtnmochachiieaaaDoorBase
namespace Go.Proofs.YtnmochachiieaaaDoor.Pure
open Go.RowKit Go.Proofs.YtnmochachiieaaaDoor.PLawBeforeFalls Go.Proofs.YtnmochachiieaaaDoorW.PrintWords Go.Proofs.YtnmochachiieaaaDoorW.PrintLast Go.Proofs.YtnmochachiieaaaDoorW.PrintMore
open Go.Proofs.YtnmochachiieaaaDoor.Base Go.Proofs.YtnmochachiieaaaDoor.Hand
theorem orders_true : laws_orders.f = some true := by
  unfold laws_orders.f
  rw [ab_less]
  rfl
theorem j1_true (k : Nat) (a b : ByteArray) (m : Int) (x : Bool) (h : x = true ∨ (a.size ≤ 400 ∧ b.size ≤ 400 ∧ (m = 0 ∨ m = 2))) : laws_FnBeforeFalls.j1 (k + 1) a b m x = some true := by
  simp only [laws_FnBeforeFalls.j1]
  by_cases hx : x = true
  · rw [if_pos hx]
  · obtain ⟨h0, h1, hm⟩ := h.resolve_left hx
    rw [if_neg hx]
    have e1 : impl_Before.f a b m false = some (befOf a b m) := by
      unfold impl_Before.f
      rw [if_pos ⟨h0, h1, rfl, by omega⟩]
    have e2 : impl_Before.f b a (wrap64 (m + 4)) false = some (befOf b a (m + 4)) := by
      rw [wrap64_id (by omega) (by omega)]
      unfold impl_Before.f
      rw [if_pos ⟨h1, h0, rfl, by omega⟩]
    obtain ⟨t1, t2⟩ := turned a b m hm
    rw [e1, e2, Option.bind_some, Option.bind_some, t1, t2, orders_true]
    simp
theorem j0_true (k : Nat) (a b : ByteArray) (m : Int) (x : Bool) : laws_FnBeforeFalls.j0 (k + 2) a b m x = some true := by
  simp only [laws_FnBeforeFalls.j0]
  by_cases hx : x = true
  · rw [if_pos hx]
  · rw [if_neg hx]
    by_cases h0 : (a.size : Int) > 400
    · rw [if_pos h0]
      exact j1_true k a b m true (Or.inl rfl)
    · rw [if_neg h0]
      by_cases h1 : (b.size : Int) > 400
      · rw [if_pos h1]
        exact j1_true k a b m true (Or.inl rfl)
      · rw [if_neg h1]
        by_cases h2 : m = 0
        · rw [if_pos h2]
          exact j1_true k a b m false (Or.inr ⟨by omega, by omega, Or.inl h2⟩)
        · rw [if_neg h2]
          by_cases h3 : m = 2
          · exact j1_true k a b m _ (Or.inr ⟨by omega, by omega, Or.inr h3⟩)
          · exact j1_true k a b m _ (Or.inl (by simp [h3]))
theorem FnBeforeFalls : laws_FnBeforeFalls.Pure := by
  intro a b m _ _ _
  refine ⟨2, ?_⟩
  unfold laws_FnBeforeFalls.f
  split
  · exact j0_true 0 a b m _
  · exact j0_true 0 a b m _
end Go.Proofs.YtnmochachiieaaaDoor.Pure
