/- Styles and configurations that are built. -/
import Derived.Test.YtedknmaaaaomoaaHandPad
import Derived.Laws.Rows
namespace Go.Proofs.Ytedknmaaaaomoaa.Hand
open Go.RowKit Go.Proofs.YtedknmaaaaomoaaW.PrintWords Go.Proofs.YtedknmaaaaomoaaW.PrintLast Go.Proofs.YtedknmaaaaomoaaW.PrintMore Go.Proofs.Ytedknmaaaaomoaa.Base
open Go.Maps (Keyed)
set_option linter.unusedVariables false
set_option linter.unusedSimpArgs false

theorem build_step {P : Program} {o : Oper} {a : Act} {w : World} {K : Act → World → Prop} {Q : Exit → Act → World → Prop} (t : TypeId) (parts : Array (Nat × Operand)) (hop : o.op = .build t parts) (v : Value) (h : (Instr.build t (parts.map fun p => (p.1, a.eval p.2))).run P w = .ok v w) (hK : K (a.put o.dst v) w) : o.wp P a w K Q := by
  have e : (execOp a.eval o).run P w = .ok (.value v) w := by
    simp only [execOp, hop]
    simp [h]
  unfold Oper.wp
  rw [e]
  exact hK
theorem wpList_build {P : Program} {ops : Array Oper} {rest : List Oper} {o : Oper} {a : Act} {w : World} {Q : Exit → Act → World → Prop} (hgd : o.guard = none) (t : TypeId) (parts : Array (Nat × Operand)) (hop : o.op = .build t parts) (v : Value) (h : (Instr.build t (parts.map fun p => (p.1, a.eval p.2))).run P w = .ok v w) (hK : wpList P ops Q rest (a.put o.dst v) w) : wpList P ops Q (o :: rest) a w :=
  wpList_plain hgd fun _ hK' => build_step t parts hop v h (hK' _ _ hK)

/-- A style whose least width is told. -/
noncomputable def styG (l : Int) : Array Value :=
  match (Instr.build 65 #[(8, .agg #[.int .i64 0, .int .i64 l])]).run Try.prog default with
  | .ok (.agg cs) _ => cs
  | _ => #[]
theorem sty_run (l : Int) (w : World) : (Instr.build 65 #[(8, .agg #[.int .i64 0, .int .i64 l])]).run Try.prog w = .ok (.agg (styG l)) w := by kernel_rfl
theorem sty_52 (l : Int) : (styG l)[52]? = some (.int .i64 l) := by kernel_rfl
theorem sty_size (l : Int) : (Try.prog.info? 65).map (·.size) = some (styG l).size := by kernel_rfl
theorem info41 : (Try.prog.info? 41).map (fun i => (i.zero, i.size, i.bytes)) = some (some (.agg (cfgC 0 0)), kCfg.sz, 184) := by kernel_rfl

end Go.Proofs.Ytedknmaaaaomoaa.Hand
