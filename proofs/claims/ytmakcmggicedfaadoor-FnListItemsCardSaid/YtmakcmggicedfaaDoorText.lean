/- Plain facts about texts as bytes: parts, joined lines, and what decoding a rune takes. No program in sight. -/
import Derived.Test.YtmakcmggicedfaaDoorBase
import Derived.Test.YtmakcmggicedfaaDoorIt
namespace Go.Proofs.YtmakcmggicedfaaDoor.Text
open Go.RowKit Go.Proofs.YtmakcmggicedfaaDoorW.PrintWords Go.Proofs.YtmakcmggicedfaaDoor.Base

theorem data_extract (s : ByteArray) (a b : Nat) : (s.extract a b).data.toList = (s.data.toList.drop a).take (b - a) := by
  rw [ByteArray.data_extract, Array.toList_extract]
theorem extract_mid (s : ByteArray) (p q r : List UInt8) (h : s.data.toList = p ++ q ++ r) (a b : Nat) (ha : a = p.length) (hb : b = p.length + q.length) : (s.extract a b).data.toList = q := by
  rw [data_extract, h, ha, hb, List.append_assoc, List.drop_left, show p.length + q.length - p.length = q.length by omega, List.take_left]

/-- Lines, joined by line feeds. -/
def joinL : List (List UInt8) → List UInt8
  | [] => []
  | [x] => x
  | x :: y :: r => x ++ 10 :: joinL (y :: r)
theorem joinL_snoc : ∀ (l : List (List UInt8)) (x : List UInt8), l ≠ [] → joinL (l ++ [x]) = joinL l ++ 10 :: x
  | [], _, h => absurd rfl h
  | [y], x, _ => rfl
  | y :: z :: r, x, _ => by
    show y ++ 10 :: joinL ((z :: r) ++ [x]) = (y ++ 10 :: joinL (z :: r)) ++ 10 :: x
    rw [joinL_snoc (z :: r) x (by simp)]
    simp

/-- What decoding a rune at a place takes: at least one byte, none beyond the text; all but the first are 128 or more. -/
theorem decode_takes (s : ByteArray) (pos : Nat) (h : pos < s.size) :
    1 ≤ (Go.Utf8.decode s pos).2 ∧ pos + (Go.Utf8.decode s pos).2 ≤ s.size ∧ (∀ j, pos < j → j < pos + (Go.Utf8.decode s pos).2 → ∀ hj : j < s.size, 128 ≤ (s[j]'hj).toNat) ∧
    ((s[pos]'h).toNat < 128 → (Go.Utf8.decode s pos).1 = (s[pos]'h).toNat ∧ (Go.Utf8.decode s pos).2 = 1) ∧ (128 ≤ (s[pos]'h).toNat → 128 ≤ (Go.Utf8.decode s pos).1) := by
  have hget : ∀ k (hk : pos + k < s.size), s.get! (pos + k) = s[pos + k]'hk := fun k hk => by
    show s.get! (pos + k) = _
    simp [ByteArray.get!, getElem!_pos, hk]
    rfl
  have h0 : s.get! (pos + 0) = s[pos]'h := hget 0 h
  by_cases hlow : (s[pos]'h).toNat < 128
  · have hd := decode_ascii s pos h hlow
    rw [hd]
    exact ⟨by simp, by simp; omega, fun j h1 h2 => by simp at h2; omega, fun _ => ⟨rfl, rfl⟩, fun h1 => by omega⟩
  · have hh := decode_high s pos h (by omega)
    refine ⟨hh.2, ?_, ?_, fun h1 => absurd h1 hlow, fun _ => hh.1⟩
    · simp only [Go.Utf8.decode]
      repeat' split
      all_goals simp_all
      all_goals omega
    · intro j hj1 hj2 hjs
      have hcont : ∀ k (hk : pos + k < s.size), (s.get! (pos + k)).toNat / 64 = 2 → 128 ≤ (s[pos + k]'hk).toNat := fun k hk h1 => by rw [hget k hk] at h1; omega
      obtain ⟨d, rfl⟩ : ∃ d, j = pos + d := ⟨j - pos, by omega⟩
      have hd0 : 0 < d := by omega
      refine hcont d hjs ?_
      revert hj2
      simp only [Go.Utf8.decode]
      repeat' split
      all_goals simp_all
      all_goals intro hj2
      all_goals first
        | omega
        | (have hd3 : d = 1 ∨ d = 2 ∨ d = 3 := by omega
           rcases hd3 with rfl | rfl | rfl <;> (rw [← hget _ hjs]; omega))
end Go.Proofs.YtmakcmggicedfaaDoor.Text
