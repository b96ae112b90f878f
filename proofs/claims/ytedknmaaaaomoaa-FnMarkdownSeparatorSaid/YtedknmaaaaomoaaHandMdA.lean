/- What Align.MarkdownProperty answers. -/
import Derived.Test.YtedknmaaaaomoaaPMarkdownPropertyx1
import Derived.Test.YtedknmaaaaomoaaHandCols
namespace Go.Proofs.Ytedknmaaaaomoaa.Hand
open Go.RowKit Go.Proofs.YtedknmaaaaomoaaW.PrintWords Go.Proofs.YtedknmaaaaomoaaW.PrintMore Go.Proofs.Ytedknmaaaaomoaa.Base Go.Proofs.Ytedknmaaaaomoaa.PMarkdownProperty
set_option linter.unusedVariables false
set_option linter.unusedSimpArgs false

def dashes (n : Nat) : List UInt8 := List.replicate n 45
theorem rep_dash : ∀ n, Lib.repeatL [45] n = dashes n
  | 0 => rfl
  | n + 1 => by
    show [45] ++ Lib.repeatL [45] n = _
    rw [rep_dash n]
    simp [dashes, List.replicate_succ]
theorem dashes_len (n : Nat) : (dashes n).length = n := by simp [dashes]
/-- An alignment's mark, so many dashes long (three at least). -/
def mdB (a : Int) (n : Nat) : ByteArray :=
  if a = 1 then ((⟨#[58]⟩ : ByteArray) ++ ⟨(dashes (max 3 n)).toArray⟩) ++ ⟨#[32]⟩
  else if a = 2 then ((⟨#[58]⟩ : ByteArray) ++ ⟨(dashes (max 3 n)).toArray⟩) ++ ⟨#[58]⟩
  else if a = 4 then ((⟨#[32]⟩ : ByteArray) ++ ⟨(dashes (max 3 n)).toArray⟩) ++ ⟨#[58]⟩
  else ((⟨#[32]⟩ : ByteArray) ++ ⟨(dashes (max 3 n)).toArray⟩) ++ ⟨#[32]⟩
theorem dash_size (n : Nat) : (⟨(dashes n).toArray⟩ : ByteArray).size = n := by
  rw [size_list]
  simp [dashes_len]
theorem mdB_size (a : Int) (n : Nat) (h : n ≤ 1000000) : (mdB a n).size ≤ 1000010 := by
  unfold mdB
  split
  · simp [ByteArray.size_append, dash_size]; show 1 + max 3 n + 1 ≤ _; omega
  · split
    · simp [ByteArray.size_append, dash_size]; show 1 + max 3 n + 1 ≤ _; omega
    · split
      · simp [ByteArray.size_append, dash_size]; show 1 + max 3 n + 1 ≤ _; omega
      · simp [ByteArray.size_append, dash_size]; show 1 + max 3 n + 1 ≤ _; omega
theorem md_j1 (a x : Int) (n : Nat) (hx : x = ((max 3 n : Nat) : Int)) (hn : n ≤ 1000000) : Ev (fun k => text_Align_MarkdownProperty.j1 k a x) (mdB a n) := by
  have hr : strings_Repeat.f (⟨#[45]⟩ : ByteArray) x = some ⟨(dashes (max 3 n)).toArray⟩ := by
    unfold strings_Repeat.f
    subst hx
    rw [if_pos ⟨by omega, by omega, by rw [Int.toNat_natCast]; show 1 * max 3 n ≤ _; omega⟩, Int.toNat_natCast]
    show some (⟨(Lib.repeatL [45] (max 3 n)).toArray⟩ : ByteArray) = _
    rw [rep_dash]
  have s1 : (⟨#[58]⟩ : ByteArray).size = 1 := rfl
  have s2 : (⟨#[32]⟩ : ByteArray).size = 1 := rfl
  refine Ev.step (f := fun _ => some (mdB a n)) (fun k => ?_) (Ev.now _)
  simp only [text_Align_MarkdownProperty.j1]
  rw [hr]
  simp only [Option.bind_some, ByteArray.size_append, dash_size, s1, s2]
  have hb : (1 + max 3 n ≤ 9223372036854775807) = True := eq_true (by omega)
  have hc : (1 + max 3 n + 1 ≤ 9223372036854775807) = True := eq_true (by omega)
  simp only [hb, hc, if_true]
  unfold mdB
  by_cases h1 : a = 1
  · rw [if_pos h1, if_pos h1]
  · rw [if_neg h1, if_neg h1]
    by_cases h2 : a = 2
    · rw [if_pos h2, if_pos h2]
    · rw [if_neg h2, if_neg h2]
      by_cases h4 : a = 4
      · rw [if_pos h4, if_pos h4]
      · rw [if_neg h4, if_neg h4]
theorem md_none (a : Int) : Ev (fun k => text_Align_MarkdownProperty.f k a []) (mdB a 0) := by
  refine Ev.congr (f := fun k => text_Align_MarkdownProperty.j0 k a [] 3 false) (fun k => by unfold text_Align_MarkdownProperty.f; rw [if_neg (by simp)]) ?_
  refine Ev.step (f := fun k => text_Align_MarkdownProperty.j1 k a 3) (fun k => ?_) (md_j1 a 3 0 (by simp) (by omega))
  simp only [text_Align_MarkdownProperty.j0]
  rw [if_neg (by decide)]
theorem md_one (a : Int) (n : Nat) (hn : n ≤ 1000000) : Ev (fun k => text_Align_MarkdownProperty.f k a [(n : Int)]) (mdB a n) := by
  refine Ev.congr (f := fun k => text_Align_MarkdownProperty.j0 k a [(n : Int)] 3 (decide ((rd [(n : Int)] 0) > 3))) (fun k => by unfold text_Align_MarkdownProperty.f; rw [if_pos (by simp), if_pos (by simp)]) ?_
  have h0 : rd [(n : Int)] 0 = (n : Int) := rfl
  rw [h0]
  by_cases h : (n : Int) > 3
  · refine Ev.step (f := fun k => text_Align_MarkdownProperty.j1 k a (n : Int)) (fun k => ?_) (md_j1 a n n (by omega) hn)
    simp only [text_Align_MarkdownProperty.j0]
    rw [if_pos (by simpa using h), if_pos (by simp), h0]
  · refine Ev.step (f := fun k => text_Align_MarkdownProperty.j1 k a 3) (fun k => ?_) (md_j1 a 3 n (by omega) hn)
    simp only [text_Align_MarkdownProperty.j0]
    rw [if_neg (by simpa using h)]
theorem mdProp0 (a : Int) (A1 : Option Addr) (w : World) : Calls Try.prog 16 #[.int .i64 a, .slice A1 0 0] w fun e w' => e = .returned (.string (mdB a 0)) ∧ Below w.heap.size w w' := by
  obtain ⟨k, hk⟩ := (md_none a).rounds
  exact text_Align_MarkdownProperty.calls k a A1 0 [] _ w ⟨rfl, by simp, fun h => absurd h (by simp)⟩ (Nat.le_refl _) hk
theorem mdProp1 (a : Int) (n : Nat) (hn : n ≤ 1000000) (A1 : Option Addr) (w : World) (h : Kd.C (Kd.int .i64) w A1 1 [(n : Int)]) : Calls Try.prog 16 #[.int .i64 a, .slice A1 1 1] w fun e w' => e = .returned (.string (mdB a n)) ∧ Below w.heap.size w w' := by
  obtain ⟨k, hk⟩ := (md_one a n hn).rounds
  exact text_Align_MarkdownProperty.calls k a A1 1 [(n : Int)] _ w h (Nat.le_refl _) hk
end Go.Proofs.Ytedknmaaaaomoaa.Hand
