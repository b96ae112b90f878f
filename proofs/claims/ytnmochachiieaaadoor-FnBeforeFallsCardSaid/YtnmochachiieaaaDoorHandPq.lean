/- What ParseFloat answers depends on the text alone. -/
import Derived.Test.YtnmochachiieaaaDoorHandRdA
import Derived.Test.YtnmochachiieaaaDoorHandRdB
import Derived.Test.YtnmochachiieaaaDoorHandPo
import Derived.Test.YtnmochachiieaaaDoorHandPr
namespace Go.Proofs.YtnmochachiieaaaDoor.Hand
open Go.RowKit Go.Proofs.YtnmochachiieaaaDoorW.PrintWords Go.Proofs.YtnmochachiieaaaDoorW.PrintLast Go.Proofs.YtnmochachiieaaaDoorW.PrintMore Go.Proofs.YtnmochachiieaaaDoor.Base
open Go.Proofs.YtnmochachiieaaaDoor.Pf Go.Proofs.YtnmochachiieaaaDoor.PFnBeforeFalls
set_option linter.unusedVariables false
set_option linter.unusedSimpArgs false
theorem read_any (s : ByteArray) (w : World) (hs : s.size ≤ 1000) :
    Calls Tryd.prog 25 #[.string s] w fun e w' => (readS s = none → e = .returned (.tuple #[.pointer none, .bool false]) ∧ Below w.heap.size w w') ∧
      (∀ c, readS s = some c → ∃ D, e = .returned (.tuple #[.pointer (some ⟨D, 0, none⟩), .bool true]) ∧ DecN w w.heap.size w' D c) := by
  cases hh : hexB s
  · exact readA s w hs hh
  · exact readB s w hs hh
def PfRes (x : Nat) (bad : Bool) (w : World) (e : Ending) (w' : World) : Prop :=
  ∃ v, e = .returned (.tuple #[.float .f64 x, v]) ∧ (bad = false → v = .nilIface) ∧ (bad = true → ∃ p, v = .iface 80 (.pointer (some p))) ∧ Below w.heap.size w w'
theorem drawn_below {B : Nat} {w w1 w2 : World} (h : Below B w w1) (hd : Drawn0 w1 w2) : Below B w w2 := by
  obtain ⟨n, rfl⟩ := hd
  exact pw_below_drewN h n
set_option maxHeartbeats 4000000 in
set_option maxRecDepth 100000 in
theorem pfNan (s : ByteArray) (w : World) (hn : ∀ w, Calls Tryd.prog 20 #[.string s, .string ⟨#[110, 97, 110]⟩] w fun e w' => e = .returned (.bool true) ∧ Drawn0 w w') :
    Calls Tryd.prog 12 #[.string s, .int .i64 64] w (PfRes 9221120237041090561 false w) := by
  have HN := Aside0.mk hn
  clear hn
  go_enter Tryd.func12, Tryd.ntmps12
  go_wp2_with (first | (go_at_call 20; refine (HN.out _).mono ?_; rintro e w2 ⟨rfl, hd2⟩; have B2 := Aside0.mk (drawn_below (Below.refl w.heap.size w) hd2); clear hd2) | (go_at_call 22; refine (nan_ _).mono ?_; rintro e w3 ⟨rfl, hb3⟩; have B3 := Aside0.mk (B2.out.trans (hb3.mono B2.out.size)); clear hb3))
  go_ret2
  exact ⟨_, rfl, fun _ => rfl, (fun h => by cases h), B3.out⟩
end Go.Proofs.YtnmochachiieaaaDoor.Hand
