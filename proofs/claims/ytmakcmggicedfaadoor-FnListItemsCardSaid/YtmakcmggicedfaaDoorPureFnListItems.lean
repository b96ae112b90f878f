/- Items that are appended at once are as those that are appended one by one. -/
import Derived.Test.YtmakcmggicedfaaDoorHandListW
import Derived.Test.YtmakcmggicedfaaDoorBase
namespace Go.Proofs.YtmakcmggicedfaaDoor.PFnListItems
open Go.RowKit Go.Proofs.YtmakcmggicedfaaDoorW.PrintWords Go.Proofs.YtmakcmggicedfaaDoorW.PrintLast Go.Proofs.YtmakcmggicedfaaDoorW.PrintMore
def laws_FnListItems.Pure : Prop := ∀ (l0 : List (S33)) (l1 : List ByteArray) (a2_0 : Int) (a2_1 : ByteArray) (a2_2 : ByteArray) (a2_3 : ByteArray) (a2_4 : ByteArray) (a2_5 : ByteArray) (a2_6 : ByteArray) (a2_7 : ByteArray) (a2_8 : ByteArray), (l0.length * 24 ≤ 140737488351232 ∧ l0.length ≤ maxLen ∧ ∀ yl0 ∈ l0, (yl0.f0.size ≤ 140737488351232 ∧ ((Lit.int .i64 yl0.f1).wf = true))) → (l1.length * 16 ≤ 140737488351232 ∧ l1.length ≤ maxLen ∧ ∀ yl1 ∈ l1, yl1.size ≤ 140737488351232) → (Lit.int .i64 a2_0).wf = true → a2_1.size ≤ 140737488351232 → a2_2.size ≤ 140737488351232 → a2_3.size ≤ 140737488351232 → a2_4.size ≤ 140737488351232 → a2_5.size ≤ 140737488351232 → a2_6.size ≤ 140737488351232 → a2_7.size ≤ 140737488351232 → a2_8.size ≤ 140737488351232 → Hand.laws_FnListItems.f l0 l1 a2_0 a2_1 a2_2 a2_3 a2_4 a2_5 a2_6 a2_7 a2_8 = some true
theorem laws_FnListItems.calls (A0 : Option Addr) (c0 : Nat) (l0 : List S33) (A1 : Option Addr) (c1 : Nat) (l1 : List ByteArray) (s0 : Int) (s1 s2 s3 s4 s5 s6 s7 s8 : ByteArray) (r : Bool) (w : World) (hr0 : Kd.C k33 w A0 l0.length l0) (hc0 : l0.length ≤ c0) (hr1 : Kd.C Kd.string w A1 l1.length l1) (hc1 : l1.length ≤ c1) (h : Hand.laws_FnListItems.f l0 l1 s0 s1 s2 s3 s4 s5 s6 s7 s8 = some r) :
    Calls Tryd.prog 4 #[.slice A0 l0.length c0, .slice A1 l1.length c1, .agg #[.int .i64 s0, .string s1, .string s2, .string s3, .string s4, .string s5, .string s6, .string s7, .string s8]] w fun e w' => e = .returned (.bool r) ∧ Below w.heap.size w w' :=
  Hand.laws_FnListItems.calls A0 c0 l0 A1 c1 l1 s0 s1 s2 s3 s4 s5 s6 s7 s8 r w hr0 hc0 hr1 hc1 h
end Go.Proofs.YtmakcmggicedfaaDoor.PFnListItems
namespace Go.Proofs.YtmakcmggicedfaaDoor.Pure
open Go.RowKit Go.Proofs.YtmakcmggicedfaaDoor.PFnListItems Go.Proofs.YtmakcmggicedfaaDoorW.PrintWords Go.Proofs.YtmakcmggicedfaaDoorW.PrintLast Go.Proofs.YtmakcmggicedfaaDoorW.PrintMore
theorem FnListItems : laws_FnListItems.Pure := by
  intro l0 l1 s0 s1 s2 s3 s4 s5 s6 s7 s8 h1 h2 _ z1 z2 z3 z4 z5 z6 z7 z8
  unfold Hand.laws_FnListItems.f
  rw [if_pos]
  refine ⟨by omega, fun x hx => (h1.2.2 x hx).1, by omega, h2.2.2, ?_⟩
  simp only [List.mem_cons, List.not_mem_nil, or_false, forall_eq_or_imp, forall_eq]
  omega
end Go.Proofs.YtmakcmggicedfaaDoor.Pure
