/- What strings.Repeat computes, of counts from 0 on and results that fit. -/
import Derived.Test.YtedknmaaaaomoaaShelf
import Derived.Test.YtedknmaaaaomoaaWMore
namespace Go.Proofs.Ytedknmaaaaomoaa.Hand
open Go.RowKit Go.Proofs.YtedknmaaaaomoaaW.PrintWords
def strings_Repeat.f (a0 : ByteArray) (a1 : Int) : Option ByteArray := if 0 ≤ a1 ∧ a1 ≤ 9223372036854775807 ∧ a0.size * a1.toNat ≤ 140737488355328 then some ⟨(Lib.repeatL a0.data.toList a1.toNat).toArray⟩ else none
theorem strings_Repeat.calls (a0 : ByteArray) (a1 : Int) (r : ByteArray) (w : World) (h : strings_Repeat.f a0 a1 = some r) :
    Calls Try.prog 21 #[.string a0, .int .i64 a1] w fun e w' => e = .returned (.string r) ∧ Below w.heap.size w w' := by
  unfold strings_Repeat.f at h
  split at h
  case isFalse => cases h
  rename_i hc
  obtain ⟨h0, h1, h2⟩ := hc
  obtain ⟨n, rfl⟩ := Int.eq_ofNat_of_zero_le h0
  obtain rfl := Option.some.inj h
  exact Try.strings_Repeat a0 n w (by omega) h2
end Go.Proofs.Ytedknmaaaaomoaa.Hand
