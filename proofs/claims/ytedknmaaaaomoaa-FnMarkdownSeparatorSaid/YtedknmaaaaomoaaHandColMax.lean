/- What getColumnWidthMax answers. -/
import Derived.Test.YtedknmaaaaomoaaHandCols
namespace Go.Proofs.Ytedknmaaaaomoaa.Hand
open Go.RowKit Go.Proofs.YtedknmaaaaomoaaW.PrintWords Go.Proofs.Ytedknmaaaaomoaa.Base
open Go.Maps (Keyed)
set_option linter.unusedVariables false
set_option linter.unusedSimpArgs false

attribute [local go_sem] store_nilFunc
set_option maxHeartbeats 4000000 in
set_option maxRecDepth 100000 in
theorem colMax (w : World) (T M : Nat) (cs : List (Int × Int)) (hT : w.cell? ⟨T, 6, none⟩ = some (.map (some M))) (hM : CfgMap w M cs) (hn : cs.length ≤ 1000000) (i : Nat) (c : Int × Int) (hi : cs[i]? = some c) :
    Calls Try.prog 24 #[.pointer (some ⟨T, 0, none⟩), .int .i64 (i : Int)] w fun e w' => e = .returned (.int .i64 c.2) ∧ Below w.heap.size w w' := by
  have hrun := hM.lookup hn hi
  obtain ⟨c1, c2⟩ := c
  simp only at hrun
  unfold cfgC at hrun
  clear hM
  go_enter Try.func24, Try.ntmps24
  go_wp2
  go_ret
  exact ⟨rfl, below_alloc (Below.refl _ _) _⟩
end Go.Proofs.Ytedknmaaaaomoaa.Hand
