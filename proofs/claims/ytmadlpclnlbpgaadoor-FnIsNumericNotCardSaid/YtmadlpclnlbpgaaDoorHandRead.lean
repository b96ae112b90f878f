/- What lightstrconv.read answers of a text with a letter that no number has: that it is none. -/
import Derived.Test.YtmadlpclnlbpgaaDoorHandDec
namespace Go.Proofs.YtmadlpclnlbpgaaDoor.Hand
open Go.RowKit Go.Proofs.YtmadlpclnlbpgaaDoorW.PrintWords Go.Proofs.YtmadlpclnlbpgaaDoor.Base
set_option linter.unusedVariables false
set_option linter.unusedSimpArgs false

/-- g j k l m o q r s u v w z, their capitals, ! ? , ; : ( ). -/
def badL (c : UInt8) : Bool := [103, 106, 107, 108, 109, 111, 113, 114, 115, 117, 118, 119, 122, 71, 74, 75, 76, 77, 79, 81, 82, 83, 85, 86, 87, 90, 33, 63, 44, 59, 58, 40, 41].contains c
structure BadL (c : UInt8) : Prop where
  C : badC c = true
  n46 : c.toNat ≠ 46
  n95 : c.toNat ≠ 95
  n48 : c.toNat ≠ 48
  dig : c.toNat < 48 ∨ 57 < c.toNat
  e : (lowB c).toNat ≠ 101
  p : (lowB c).toNat ≠ 112
  x : (lowB c).toNat ≠ 120
  hex : (lowB c).toNat < 97 ∨ 102 < (lowB c).toNat
  n43 : c.toNat ≠ 43
  n45 : c.toNat ≠ 45
theorem bad_of {c : UInt8} (h : badL c = true) : BadL c := by
  have : ∀ n : Fin 256, badL (UInt8.ofNat n.val) = true → badC (UInt8.ofNat n.val) = true ∧ (UInt8.ofNat n.val).toNat ≠ 46 ∧ (UInt8.ofNat n.val).toNat ≠ 95 ∧ (UInt8.ofNat n.val).toNat ≠ 48 ∧ ((UInt8.ofNat n.val).toNat < 48 ∨ 57 < (UInt8.ofNat n.val).toNat) ∧ (lowB (UInt8.ofNat n.val)).toNat ≠ 101 ∧ (lowB (UInt8.ofNat n.val)).toNat ≠ 112 ∧ (lowB (UInt8.ofNat n.val)).toNat ≠ 120 ∧ ((lowB (UInt8.ofNat n.val)).toNat < 97 ∨ 102 < (lowB (UInt8.ofNat n.val)).toNat) ∧ (UInt8.ofNat n.val).toNat ≠ 43 ∧ (UInt8.ofNat n.val).toNat ≠ 45 := by decide +kernel
  have := this ⟨c.toNat, c.toNat_lt⟩
  simp only [UInt8.ofNat_toNat] at this
  obtain ⟨a1, a2, a3, a4, a5, a6, a7, a8, a9, a10, a11⟩ := this h
  exact ⟨a1, a2, a3, a4, a5, a6, a7, a8, a9, a10, a11⟩
theorem at_byte {s : ByteArray} {i : Nat} {q : UInt8} (h : s.data.toList[i]? = some q) : ∃ hi : i < s.size, s[i]'hi = q := by
  have hi : i < s.data.toList.length := by
    rcases Nat.lt_or_ge i s.data.toList.length with h' | h'
    · exact h'
    · rw [List.getElem?_eq_none h'] at h; cases h
  refine ⟨by rw [size_list]; exact hi, ?_⟩
  rw [List.getElem?_eq_getElem hi] at h
  exact Option.some.inj h
theorem byte_at {s : ByteArray} {i : Nat} (hi : i < s.size) : ∃ q, s.data.toList[i]? = some q ∧ s[i]'hi = q := ⟨s[i]'hi, by rw [List.getElem?_eq_getElem (by rw [← size_list]; exact hi)]; rfl, rfl⟩
theorem rest2_list (s : ByteArray) : (s.extract 2 s.size).data.toList = s.data.toList.drop 2 := by
  rw [ByteArray.data_extract, Array.toList_extract]
  rw [List.extract_eq_take_drop, List.take_of_length_le (by rw [List.length_drop]; have := size_list s; omega)]

/-- Is there a hexadecimal prefix? -/
def hexB (s : ByteArray) : Bool := match s.data.toList with
  | a :: q :: _ => decide (a.toNat = 48) && decide ((lowB q).toNat = 120)
  | _ => false
theorem hexB_two {s : ByteArray} {a q : UInt8} (h0 : s.data.toList[0]? = some a) (h1 : s.data.toList[1]? = some q) : hexB s = (decide (a.toNat = 48) && decide ((lowB q).toNat = 120)) := by
  unfold hexB
  match hl : s.data.toList with
  | [] => rw [hl] at h0; cases h0
  | [x] => rw [hl] at h1; cases h1
  | x :: y :: r =>
    rw [hl] at h0 h1
    obtain rfl : x = a := by simpa using h0
    obtain rfl : y = q := by simpa using h1
    rfl
theorem hexB_short {s : ByteArray} (h : ¬ 2 ≤ s.size) : hexB s = false := by
  unfold hexB
  match hl : s.data.toList with
  | [] => rfl
  | [x] => rfl
  | x :: y :: r => rw [size_list, hl] at h; simp at h
theorem hexB_yes {s : ByteArray} (h : hexB s = true) : ∃ q, s.data.toList[0]? = some 48 ∧ s.data.toList[1]? = some q ∧ (lowB q).toNat = 120 := by
  unfold hexB at h
  match hl : s.data.toList with
  | [] => rw [hl] at h; cases h
  | [x] => rw [hl] at h; cases h
  | x :: y :: r =>
    rw [hl] at h
    simp only [Bool.and_eq_true, decide_eq_true_eq] at h
    exact ⟨y, by rw [show x = 48 from UInt8.toNat_inj.1 h.1]; rfl, rfl, h.2⟩
/-- The rounds over the digits, and what they leave. -/
def RdR (w0 : World) (B D k : Nat) (v7 v8 v9 v10 : Value) (i : Nat) (W : World) : Prop :=
  ∃ (m ex dp : Int) (sm dt : Bool) (v : Value) (xs : List Int), v7 = .int .u64 m ∧ v8 = .bool sm ∧ v9 = .bool dt ∧ v10 = .int .i64 ex ∧ i ≤ k ∧ xs.length ≤ i ∧ DecAt w0 B W D v xs dp
theorem RdR.mk' {w0 W : World} {B D k i : Nat} {m ex dp : Int} {sm dt : Bool} {v : Value} {xs : List Int} (h1 : DecAt w0 B W D v xs dp) (h2 : xs.length ≤ i) (h3 : i ≤ k) : RdR w0 B D k (.int .u64 m) (.bool sm) (.bool dt) (.int .i64 ex) i W :=
  ⟨m, ex, dp, sm, dt, v, xs, rfl, rfl, rfl, rfl, h3, h2, h1⟩

end Go.Proofs.YtmadlpclnlbpgaaDoor.Hand
