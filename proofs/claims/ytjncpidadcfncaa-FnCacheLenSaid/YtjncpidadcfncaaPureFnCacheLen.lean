/- A cache never has more entries than its size, and what it has more behind a call is what was added less what went or was removed. No condition. -/
import Derived.Test.YtjncpidadcfncaaHandCacheJ
namespace Go.Proofs.Ytjncpidadcfncaa.PFnCacheLen
open Go.RowKit Go.Proofs.YtjncpidadcfncaaW.PrintWords Go.Proofs.YtjncpidadcfncaaW.PrintLast Go.Proofs.YtjncpidadcfncaaW.PrintMore
set_option linter.unusedVariables false
def laws_FnCacheLen.Pure : Prop := ∀ (a0 : Int) (l1 : List S25), (Lit.int .u8 a0).wf = true → (l1.length * 24 ≤ 140737488351232 ∧ l1.length ≤ maxLen ∧ ∀ yx ∈ l1, ((Lit.int .i64 yx.f0).wf = true ∧ ((Lit.int .i64 yx.f1).wf = true ∧ ((Lit.int .i64 yx.f2).wf = true)))) → (Lit.int .u8 a0).wf = true ∧ ∀ yx ∈ l1, (Lit.int .i64 yx.f1).wf = true
theorem laws_FnCacheLen.calls (a0 : Int) (A1 : Option Addr) (c1 : Nat) (l1 : List S25) (r : Bool) (w : World) (hr1 : Kd.C k25 w A1 l1.length l1) (hc1 : l1.length ≤ c1) (h : (Lit.int .u8 a0).wf = true ∧ ∀ yx ∈ l1, (Lit.int .i64 yx.f1).wf = true) :
    Calls Try.prog 3 #[.int .u8 a0, .slice A1 l1.length c1] w fun e w' => e = .returned (.bool true) ∧ Below w.heap.size w w' :=
  Hand.law_ a0 A1 c1 l1 w hr1 hc1 (Base.wf_u8 h.1) h.2
end Go.Proofs.Ytjncpidadcfncaa.PFnCacheLen
namespace Go.Proofs.Ytjncpidadcfncaa.Pure
open Go.RowKit Go.Proofs.Ytjncpidadcfncaa.PFnCacheLen
set_option linter.unusedVariables false
theorem FnCacheLen : laws_FnCacheLen.Pure := fun a0 l1 w0 w1 => ⟨w0, fun x hx => (w1.2.2 x hx).2.1⟩
end Go.Proofs.Ytjncpidadcfncaa.Pure
