/- ListLength: how many items the steps of a new list made. -/
import Derived.Test.YtmakcmggicedfaaDoorHandListQ
namespace Go.Proofs.YtmakcmggicedfaaDoor.Hand
open Go.RowKit Go.Proofs.YtmakcmggicedfaaDoorW.PrintWords Go.Proofs.YtmakcmggicedfaaDoor.Base
set_option linter.unusedVariables false
set_option linter.unusedSimpArgs false

set_option maxHeartbeats 4000000 in
set_option maxRecDepth 100000 in
theorem listLength (L : Nat) (w : World) (ao : Option Addr) (n c : Nat) (h : w.cell? ⟨L, 3, none⟩ = some (.slice ao n c)) :
    Calls Tryd.prog 28 #[.pointer (some ⟨L, 0, none⟩)] w fun e w' => e = .returned (.int .i64 (n : Int)) ∧ w = w' := by
  go_enter Tryd.func28, Tryd.ntmps28
  go_wp2
  go_ret
  exact ⟨rfl, rfl⟩
def impl_ListLength.f (l : List (S38)) : Option Int :=
  if l.length ≤ 1000000 then (stepsL l 0 []).map fun s => (s.2.length : Int) else none
set_option maxHeartbeats 4000000 in
set_option maxRecDepth 100000 in
theorem impl_ListLength.calls (A0 : Option Addr) (c0 : Nat) (l : List (S38)) (r : Int) (w : World) (hr0 : Kd.C k38 w A0 l.length l) (hc0 : l.length ≤ c0) (h : impl_ListLength.f l = some r) :
    Calls Tryd.prog 15 #[.slice A0 l.length c0] w fun e w' => e = .returned (.int .i64 r) ∧ Below w.heap.size w w' := by
  unfold impl_ListLength.f at h
  split at h
  case isFalse => cases h
  rename_i hl
  obtain ⟨⟨lv, xs⟩, hs, hr⟩ := Option.map_eq_some_iff.mp h
  have HS := Aside0.mk hs
  have HR := Aside0.mk hr0
  have HRR := Aside0.mk hr
  clear hs hr0 h hr
  go_enter Tryd.func15, Tryd.ntmps15
  go_wp2_with (first
    | (go_at_call 23; refine (listOf A0 c0 l lv xs w HR.out hl HS.out).mono ?_; rintro e w2 ⟨L, v, rfl, hL, hok, h2, i2, b2⟩; obtain ⟨ao, c, rfl, _⟩ := i2.toIn (Nat.le_refl _); have B2 := Aside0.mk b2; have q3 : w2.cell? ⟨L, 3, none⟩ = some (.slice ao xs.length c) := (by rw [blk_cell h2]; rfl); clear hok h2 i2 b2)
    | (go_at_call 28; refine (listLength L w2 ao xs.length c q3).mono ?_; rintro e w3 ⟨rfl, rfl⟩))
  go_ret
  exact ⟨ret_int HRR.out, B2.out⟩
end Go.Proofs.YtmakcmggicedfaaDoor.Hand
