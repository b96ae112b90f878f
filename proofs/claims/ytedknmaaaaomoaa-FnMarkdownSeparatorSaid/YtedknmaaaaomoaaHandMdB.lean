/- How a column of a separator is aligned, and the number's column of it. -/
import Derived.Test.YtedknmaaaaomoaaHandMdA
import Derived.Test.YtedknmaaaaomoaaHandRune
import Derived.Test.YtedknmaaaaomoaaHandPad
namespace Go.Proofs.Ytedknmaaaaomoaa.Hand
open Go.RowKit Go.Proofs.YtedknmaaaaomoaaW.PrintWords Go.Proofs.YtedknmaaaaomoaaW.PrintMore Go.Proofs.Ytedknmaaaaomoaa.Base
open Go.Maps (Keyed)
set_option linter.unusedVariables false
set_option linter.unusedSimpArgs false
attribute [local go_sem] store_nilFunc

/-- A separator's hint. -/
def hintS : Array Value := #[.bool false, .bool false, .bool false, .bool false, .bool false, .bool false, .bool false, .bool false, .bool false, .bool true, .bool false, .int .i64 0, .int .i64 0, .int .i64 0]

theorem cell_al {w : World} {a : Addr} {v : Value} (h : w.cell? a = some v) (o : Obj) : (w.alloc o).cell? a = some v := ((below_alloc (Below.refl _ _) o).cell (World.block_lt_of_cell? _ _ h)).trans h
set_option maxHeartbeats 4000000 in
set_option maxRecDepth 100000 in
theorem getAlign (w : World) (T S M NN n : Nat) (cs : List (Int × Int)) (t4 : w.cell? ⟨T, 4, none⟩ = some (.slice (some ⟨NN, 0, none⟩) n n)) (t6 : w.cell? ⟨T, 6, none⟩ = some (.map (some M))) (t39 : w.cell? ⟨T, 39, none⟩ = some (.pointer (some ⟨S, 0, none⟩))) (s36 : w.cell? ⟨S, 36, none⟩ = some (.int .i64 0))
    (hM : CfgMap w M cs) (hn : cs.length ≤ 1000000) (i : Nat) (hi : i < n) (hnn : w.cell? ⟨NN, i, none⟩ = some (.bool true)) (c : Int × Int) (hc : cs[i]? = some c) :
    Calls Try.prog 32 #[.pointer (some ⟨T, 0, none⟩), .int .i64 (i : Int), .agg hintS] w fun e w' => e = .returned (.int .i64 c.1) ∧ Below w.heap.size w w' := by
  have hM1 : CfgMap (w.alloc (.cells hintS 102)) M cs := hM.below (below_alloc (Below.refl _ _) _)
  have hrun := hM1.lookup hn hc
  have B1 := Aside0.mk (below_alloc (Below.refl w.heap.size w) (.cells hintS 102))
  have X1 := Aside0.mk (blk_new w (.cells hintS 102))
  replace t4 := cell_al t4 (.cells hintS 102)
  replace t6 := cell_al t6 (.cells hintS 102)
  replace t39 := cell_al t39 (.cells hintS 102)
  replace s36 := cell_al s36 (.cells hintS 102)
  replace hnn := cell_al hnn (.cells hintS 102)
  obtain ⟨c1, c2⟩ := c
  simp only at hrun
  unfold cfgC at hrun
  have p1 : decide ((i : Int) < (n : Int)) = true := decide_eq_true (by omega)
  have p2 : (i : Int) < (n : Int) := by omega
  clear hM hM1
  have T4 := Aside0.mk t4
  have T6 := Aside0.mk t6
  have T39 := Aside0.mk t39
  have S36 := Aside0.mk s36
  have HNN := Aside0.mk hnn
  have HRUN := Aside0.mk hrun
  clear t4 t6 t39 s36 hnn hrun
  show Calls Try.prog 32 #[.pointer (some ⟨T, 0, none⟩), .int .i64 (i : Int), .agg #[.bool false, .bool false, .bool false, .bool false, .bool false, .bool false, .bool false, .bool false, .bool false, .bool true, .bool false, .int .i64 0, .int .i64 0, .int .i64 0]] w _
  go_enter Try.func32, Try.ntmps32
  go_upto_region 2 with (fail)
  change Code.wp _ _ _ _ (w.alloc (.cells hintS 102))
  generalize (w.alloc (.cells hintS 102)) = w1 at B1 X1 T4 T6 T39 S36 HNN HRUN ⊢
  generalize w.heap.size = X at X1 ⊢
  have t6 := T6.out
  have hrun := HRUN.out
  go_upto_region 3 with (fail)
  have Y2 := Aside0.mk (blk_new w1 (.cells #[.string ⟨#[]⟩, .int .i64 0, .int .i64 c1, .int .i64 0, .int .i64 0, .bool false, .slice none 0 0, .slice none 0 0, .slice none 0 0, .bool false, .int .i64 0, .int .i64 0, .int .i64 0, .int .i64 c2, .nilFunc, .int .i64 0] 41))
  have X2 := Aside0.mk (blk_alloc X1.out (.cells #[.string ⟨#[]⟩, .int .i64 0, .int .i64 c1, .int .i64 0, .int .i64 0, .bool false, .slice none 0 0, .slice none 0 0, .slice none 0 0, .bool false, .int .i64 0, .int .i64 0, .int .i64 0, .int .i64 c2, .nilFunc, .int .i64 0] 41))
  have t4 := cell_al T4.out (.cells #[.string ⟨#[]⟩, .int .i64 0, .int .i64 c1, .int .i64 0, .int .i64 0, .bool false, .slice none 0 0, .slice none 0 0, .slice none 0 0, .bool false, .int .i64 0, .int .i64 0, .int .i64 0, .int .i64 c2, .nilFunc, .int .i64 0] 41)
  have t39 := cell_al T39.out (.cells #[.string ⟨#[]⟩, .int .i64 0, .int .i64 c1, .int .i64 0, .int .i64 0, .bool false, .slice none 0 0, .slice none 0 0, .slice none 0 0, .bool false, .int .i64 0, .int .i64 0, .int .i64 0, .int .i64 c2, .nilFunc, .int .i64 0] 41)
  have s36 := cell_al S36.out (.cells #[.string ⟨#[]⟩, .int .i64 0, .int .i64 c1, .int .i64 0, .int .i64 0, .bool false, .slice none 0 0, .slice none 0 0, .slice none 0 0, .bool false, .int .i64 0, .int .i64 0, .int .i64 0, .int .i64 c2, .nilFunc, .int .i64 0] 41)
  have hnn := cell_al HNN.out (.cells #[.string ⟨#[]⟩, .int .i64 0, .int .i64 c1, .int .i64 0, .int .i64 0, .bool false, .slice none 0 0, .slice none 0 0, .slice none 0 0, .bool false, .int .i64 0, .int .i64 0, .int .i64 0, .int .i64 c2, .nilFunc, .int .i64 0] 41)
  have B2 := Aside0.mk (below_alloc B1.out (.cells #[.string ⟨#[]⟩, .int .i64 0, .int .i64 c1, .int .i64 0, .int .i64 0, .bool false, .slice none 0 0, .slice none 0 0, .slice none 0 0, .bool false, .int .i64 0, .int .i64 0, .int .i64 0, .int .i64 c2, .nilFunc, .int .i64 0] 41))
  change Code.wp _ _ _ _ (w1.alloc (.cells #[.string ⟨#[]⟩, .int .i64 0, .int .i64 c1, .int .i64 0, .int .i64 0, .bool false, .slice none 0 0, .slice none 0 0, .slice none 0 0, .bool false, .int .i64 0, .int .i64 0, .int .i64 0, .int .i64 c2, .nilFunc, .int .i64 0] 41))
  clear hrun HRUN t6 T4 T39 S36 HNN T6 X1
  generalize (w1.alloc (.cells #[.string ⟨#[]⟩, .int .i64 0, .int .i64 c1, .int .i64 0, .int .i64 0, .bool false, .slice none 0 0, .slice none 0 0, .slice none 0 0, .bool false, .int .i64 0, .int .i64 0, .int .i64 0, .int .i64 c2, .nilFunc, .int .i64 0] 41)) = w2 at B2 X2 Y2 t4 t39 s36 hnn ⊢
  generalize w1.heap.size = Y at Y2 ⊢
  have y2 : w2.cell? ⟨Y, 2, none⟩ = some (.int .i64 c1) := by rw [blk_cell Y2.out]; rfl
  have x1 : w2.cell? ⟨X, 1, none⟩ = some (.bool false) := by rw [blk_cell X2.out]; rfl
  have x5 : w2.cell? ⟨X, 5, none⟩ = some (.bool false) := by rw [blk_cell X2.out]; rfl
  have x6 : w2.cell? ⟨X, 6, none⟩ = some (.bool false) := by rw [blk_cell X2.out]; rfl
  by_cases h0 : c1 = 0
  · subst h0
    go_wp2
    go_ret
    exact ⟨rfl, B2.out⟩
  · have e0 : (c1 == 0) = false := beq_eq_false_iff_ne.mpr h0
    go_wp2
    go_ret
    exact ⟨rfl, B2.out⟩
end Go.Proofs.Ytedknmaaaaomoaa.Hand
