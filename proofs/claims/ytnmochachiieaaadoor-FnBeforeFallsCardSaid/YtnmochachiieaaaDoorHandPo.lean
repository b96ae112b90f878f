/- Bits as floats; failures. -/
import Derived.Test.YtnmochachiieaaaDoorHandPk
import Derived.Laws.Externs
namespace Go.Proofs.YtnmochachiieaaaDoor.Hand
open Go.RowKit Go.Proofs.YtnmochachiieaaaDoorW.PrintWords Go.Proofs.YtnmochachiieaaaDoorW.PrintLast Go.Proofs.YtnmochachiieaaaDoorW.PrintMore Go.Proofs.YtnmochachiieaaaDoor.Base
open Go.Proofs.YtnmochachiieaaaDoor.Pf
set_option linter.unusedVariables false
set_option linter.unusedSimpArgs false
theorem run36 (b : Int) (w : World) : (callFunc 36 #[.int .u64 b]).run Tryd.prog w = .ok (.value (.float .f64 b.toNat)) w := by
  rw [run_callFunc_extern (fn := Tryd.f36) (e := Extern.MathFloatBits.float64frombits) (by kernel_rfl) (by kernel_rfl) (by kernel_rfl) (by kernel_rfl) (by kernel_rfl)]
  rfl
theorem float_ (b : Int) (w : World) : Calls Tryd.prog 24 #[.agg #[.int .i64 52, .int .i64 11, .int .i64 (-1023)], .int .u64 b] w fun e w' => e = .returned (.float .f64 b.toNat) ∧ Below w.heap.size w w' := by
  have HB := Aside0.mk (below_alloc (Below.refl w.heap.size w) (.cells #[.int .i64 52, .int .i64 11, .int .i64 (-1023)] 55 (0, 0)))
  have hr := run36 b
  go_enter Tryd.func24, Tryd.ntmps24
  go_wp2
  go_ret
  exact ⟨rfl, HB.out⟩
theorem nan_ (w : World) : Calls Tryd.prog 22 #[] w fun e w' => e = .returned (.float .f64 9221120237041090561) ∧ Below w.heap.size w w' := by
  have hr := run36 9221120237041090561
  go_enter Tryd.func22, Tryd.ntmps22
  go_wp2
  go_ret
  exact ⟨rfl, Below.refl _ _⟩
theorem fail_ (a b c : ByteArray) (w : World) : Calls Tryd.prog 27 #[.string a, .string b, .string c] w fun e w' => ∃ p, e = .returned (.iface 80 (.pointer (some p))) ∧ Below w.heap.size w w' := by
  have HB := fun (o : Obj) => Aside0.mk (below_alloc (Below.refl w.heap.size w) o)
  go_enter Tryd.func27, Tryd.ntmps27
  go_wp2
  go_ret
  exact ⟨_, rfl, (HB _).out⟩
end Go.Proofs.YtnmochachiieaaaDoor.Hand
