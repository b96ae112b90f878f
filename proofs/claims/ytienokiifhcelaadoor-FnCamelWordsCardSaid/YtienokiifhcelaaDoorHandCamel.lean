/- impl.TwSplitCamelCase, walked. -/
import Derived.Test.YtienokiifhcelaaDoorHandCamelA
namespace Go.Proofs.YtienokiifhcelaaDoor.Hand
open Go.RowKit Go.Proofs.YtienokiifhcelaaDoorW.PrintWords Go.Proofs.YtienokiifhcelaaDoor.Base
set_option maxHeartbeats 4000000 in
theorem impl_TwSplitCamelCase.calls (a0 : ByteArray) (r : List ByteArray) (w : World) (hT : LaidW w) (h : impl_TwSplitCamelCase.f a0 = some r) :
    Calls Tryd.prog 6 #[.string a0] w fun e w' => ∃ v0_ : Value, e = .returned v0_ ∧ Kd.R Kd.string 9 w' w.heap.size (fun _ => True) v0_ r ∧ Below w.heap.size w w' := by
  unfold impl_TwSplitCamelCase.f at h
  split at h
  · rename_i hc
    obtain rfl := Option.some.inj h
    have CT := Aside0.mk (split_ a0 (asciiB_iff hc.2) hc.1 w hT)
    clear h hc hT
    go_enter Tryd.func6, Tryd.ntmps6
    go_wp2_with ((go_at_call 9; with_reducible refine CT.out.mono ?_); rintro e w' ⟨v0, rfl, h1, h2⟩; have H1 := Aside0.mk h1; have H2 := Aside0.mk h2; clear h1 h2)
    go_ret
    exact ⟨_, rfl, H1.out, H2.out⟩
  · cases h
end Go.Proofs.YtienokiifhcelaaDoor.Hand
