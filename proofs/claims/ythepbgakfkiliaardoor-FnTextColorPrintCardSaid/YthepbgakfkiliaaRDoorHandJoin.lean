/- What strings.Join computes, of texts whose lengths fit. -/
import Derived.Test.YthepbgakfkiliaaRDoorShelf
import Derived.Test.YthepbgakfkiliaaRDoorWMore
import Derived.Lib.LaidU8
namespace Go.Proofs.YthepbgakfkiliaaRDoor.Hand
open Go.RowKit Go.Proofs.YthepbgakfkiliaaRDoorW.PrintWords
def strings_Join.f (l0 : List ByteArray) (a1 : ByteArray) : Option ByteArray :=
  if l0.length ≤ 140737488355328 ∧ (Lib.join (l0.map (·.data.toList)) a1.data.toList).length ≤ 140737488355328 then some ⟨(Lib.join (l0.map (·.data.toList)) a1.data.toList).toArray⟩ else none
theorem strings_Join.calls (A0 : Option Addr) (c0 : Nat) (l0 : List ByteArray) (a1 : ByteArray) (r : ByteArray) (w : World) (hr0 : Kd.C Kd.string w A0 l0.length l0) (hc0 : l0.length ≤ c0) (h : strings_Join.f l0 a1 = some r) :
    Calls Tryd.prog 41 #[.slice A0 l0.length c0, .string a1] w fun e w' => e = .returned (.string r) ∧ Below w.heap.size w w' := by
  unfold strings_Join.f at h
  split at h
  case isFalse => cases h
  rename_i hz
  obtain rfl := Option.some.inj h
  cases l0 with
  | nil =>
    refine (Tryd.strings_Join_none A0 c0 a1 w).mono ?_
    rintro e w' ⟨rfl, rfl⟩
    exact ⟨rfl, Below.refl _ _⟩
  | cons x xs =>
    obtain ⟨_, _, h3⟩ := hr0
    obtain ⟨ad, rfl, hcells⟩ := h3 (by simp)
    have hread : ∀ (j : Nat) y, (x :: xs)[j]? = some y → w.cell? (ad.add j) = some (.string y) := by
      intro j y hy
      obtain ⟨c, hcl, hR, hc⟩ := hcells j y hy
      have : c = [.string y] := hR
      subst this
      have := hc 0 (.string y) rfl
      simpa [Kd.string, Kd.scalar] using this
    obtain ⟨bk, o, sp⟩ := ad
    have h0 := hread 0 x rfl
    have hsp : sp = none := by
      have h1 : w.cell? ⟨bk, o, sp⟩ = some (.string x) := by simpa [Addr.add] using h0
      exact cell_spot h1
    subst hsp
    have hbk : bk < w.heap.size := by
      rcases Nat.lt_or_ge bk w.heap.size with h' | h'
      · exact h'
      · simp [World.cell?, Addr.add, Array.getElem?_eq_none h'] at h0
    exact Tryd.strings_Join bk o c0 (x :: xs) a1 w (fun j y hy => by have h1 := hread j y hy; by_cases hj : j = 0 <;> simpa [Addr.add, hj] using h1) hbk hz.1 hc0 hz.2
end Go.Proofs.YthepbgakfkiliaaRDoor.Hand
