/- The bits of the float nearest to a decimal: any decimal. -/
import Derived.Test.YtnmochachiieaaaDoorHandPj
namespace Go.Proofs.YtnmochachiieaaaDoor.Hand
open Go.RowKit Go.Proofs.YtnmochachiieaaaDoorW.PrintWords Go.Proofs.YtnmochachiieaaaDoorW.PrintLast Go.Proofs.YtnmochachiieaaaDoorW.PrintMore Go.Proofs.YtnmochachiieaaaDoor.Base
open Go.Proofs.YtnmochachiieaaaDoor.Pf
set_option linter.unusedVariables false
set_option linter.unusedSimpArgs false

set_option maxHeartbeats 4000000 in
set_option maxRecDepth 100000 in
theorem bitsNone (w0 w : World) (B D : Nat) (a : Dc) (H : DecN w0 B w D a) (ha : a.d = [] ∨ a.dp < -330) (hl : a.d.length ≤ 1000000) :
    Calls Tryd.prog 28 #[.pointer (some ⟨D, 0, none⟩), .agg #[.int .i64 52, .int .i64 11, .int .i64 (-1023)]] w fun e w' => e = .returned (.tuple #[.int .u64 0, .bool false]) ∧ Kp w0 B D w' := by
  obtain ⟨v, H⟩ := H
  have HBX := Aside0.mk (blk_new w (.cells #[.int .i64 52, .int .i64 11, .int .i64 (-1023)] 55 (0, 0)))
  have HD1 := Aside0.mk (H.below (below_alloc (Below.refl _ _) (.cells #[.int .i64 52, .int .i64 11, .int .i64 (-1023)] 55 (0, 0))))
  obtain ⟨A, cc, rfl, hc⟩ := H.form
  have c0 := HD1.out.c0
  have c1 := HD1.out.c1
  have HA := Aside0.mk ha
  clear H ha
  go_enter Tryd.func28, Tryd.ntmps28
  go_upto_region 1 with (fail)
  obtain ⟨X, hX⟩ : ∃ X, X = w.heap.size := ⟨_, rfl⟩
  rw [← hX] at HBX ⊢
  clear hX
  generalize w.alloc _ = w1 at HBX HD1 c0 c1 ⊢
  have f52 : w1.cell? ⟨X, 0, none⟩ = some (.int .i64 52) := by rw [blk_cell HBX.out]; rfl
  have f11 : w1.cell? ⟨X, 1, none⟩ = some (.int .i64 11) := by rw [blk_cell HBX.out]; rfl
  go_quiet (fail)
  by_cases hn : a.d.length = 0
  · have n1 : ((a.d.length : Int) == 0) = true := beq_iff_eq.mpr (by omega)
    have n1' : (a.d.length == 0) = true := beq_iff_eq.mpr hn
    clear hn
    go_wp2
    go_ret2
    exact ⟨rfl, (HD1.out.drewN _).2.2.1⟩
  · have n1 : ((a.d.length : Int) == 0) = false := beq_eq_false_iff_ne.mpr (by omega)
    have n2 : decide (a.dp < -330) = true := decide_eq_true (by
      rcases HA.out with h | h
      · exact absurd (by rw [h]; rfl) hn
      · exact h)
    clear hn
    go_wp2
    go_ret2
    exact ⟨rfl, (HD1.out.drewN _).2.2.1⟩

set_option maxHeartbeats 4000000 in
set_option maxRecDepth 100000 in
theorem bitsOver (w0 w : World) (B D : Nat) (a : Dc) (H : DecN w0 B w D a) (ha : a.d ≠ []) (hp : 310 < a.dp) (hl : a.d.length ≤ 1000000) :
    Calls Tryd.prog 28 #[.pointer (some ⟨D, 0, none⟩), .agg #[.int .i64 52, .int .i64 11, .int .i64 (-1023)]] w fun e w' => e = .returned (.tuple #[.int .u64 9218868437227405312, .bool true]) ∧ Kp w0 B D w' := by
  obtain ⟨v, H⟩ := H
  have HBX := Aside0.mk (blk_new w (.cells #[.int .i64 52, .int .i64 11, .int .i64 (-1023)] 55 (0, 0)))
  have HD1 := Aside0.mk (H.below (below_alloc (Below.refl _ _) (.cells #[.int .i64 52, .int .i64 11, .int .i64 (-1023)] 55 (0, 0))))
  obtain ⟨A, cc, rfl, hc⟩ := H.form
  have c0 := HD1.out.c0
  have c1 := HD1.out.c1
  have n1 : ((a.d.length : Int) == 0) = false := beq_eq_false_iff_ne.mpr (by have : a.d.length ≠ 0 := fun h => ha (List.eq_nil_of_length_eq_zero h); omega)
  have n2 : decide (a.dp < -330) = false := decide_eq_false (by omega)
  have n3 : decide (310 < a.dp) = true := decide_eq_true hp
  clear H ha
  go_enter Tryd.func28, Tryd.ntmps28
  go_upto_region 1 with (fail)
  obtain ⟨X, hX⟩ : ∃ X, X = w.heap.size := ⟨_, rfl⟩
  rw [← hX] at HBX ⊢
  clear hX
  generalize w.alloc _ = w1 at HBX HD1 c0 c1 ⊢
  have f52 : w1.cell? ⟨X, 0, none⟩ = some (.int .i64 52) := by rw [blk_cell HBX.out]; rfl
  have f11 : w1.cell? ⟨X, 1, none⟩ = some (.int .i64 11) := by rw [blk_cell HBX.out]; rfl
  go_quiet (fail)
  go_wp2
  go_ret2
  exact ⟨rfl, (HD1.out.drewN _).2.2.1⟩

/-- The bits: what they are depends on the decimal alone. -/
theorem bits_ (a : Dc) (ha : a.d = [] ∨ Norm a) (hl : a.d.length ≤ 1000000) : ∃ x : Int × Bool, ∀ (w0 w : World) (B D : Nat), DecN w0 B w D a →
    Calls Tryd.prog 28 #[.pointer (some ⟨D, 0, none⟩), .agg #[.int .i64 52, .int .i64 11, .int .i64 (-1023)]] w fun e w' => e = .returned (.tuple #[.int .u64 x.1, .bool x.2]) ∧ Kp w0 B D w' := by
  by_cases h0 : a.d = [] ∨ a.dp < -330
  · exact ⟨(0, false), fun w0 w B D H => bitsNone w0 w B D a H h0 hl⟩
  · have hne : a.d ≠ [] := fun h => h0 (.inl h)
    have hN : Norm a := ha.resolve_left hne
    by_cases h1 : 310 < a.dp
    · exact ⟨(9218868437227405312, true), fun w0 w B D H => bitsOver w0 w B D a H hne h1 hl⟩
    · obtain ⟨r, hr⟩ := bits1_all hN hl (by omega) (by omega)
      rw [bits1] at hr
      rcases hlow : lowF 100000000 700 a 0 with _ | ⟨b, e1⟩
      · rw [hlow] at hr; cases hr
      · rw [hlow] at hr
        simp only [Option.bind_some] at hr
        rcases hhigh : highF 300001 b e1 with _ | ⟨c, e2⟩
        · rw [hhigh] at hr; cases hr
        · rw [hhigh] at hr
          simp only [Option.bind_some] at hr
          exact ⟨resC r, fun w0 w B D H => bitsMain w0 w B D a b c e1 e2 r H hN hl (by omega) (by omega) hlow hhigh hr⟩
end Go.Proofs.YtnmochachiieaaaDoor.Hand
