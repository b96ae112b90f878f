/- The documentation's example is rendered in each of its styles as it is shown. -/
import Derived.Test.YtmakcmggicedfaaDoorPFnListFigurex1
import Derived.Test.YtmakcmggicedfaaDoorBase
import Derived.KernelRfl
namespace Go.Proofs.YtmakcmggicedfaaDoor.Pure
open Go.RowKit Go.Proofs.YtmakcmggicedfaaDoor.PFnListFigure Go.Proofs.YtmakcmggicedfaaDoorW.PrintWords Go.Proofs.YtmakcmggicedfaaDoorW.PrintLast Go.Proofs.YtmakcmggicedfaaDoorW.PrintMore
open Go.Proofs.YtmakcmggicedfaaDoor.Base Go.Proofs.YtmakcmggicedfaaDoor.Hand
set_option linter.unusedSimpArgs false
set_option linter.unusedVariables false
set_option maxRecDepth 100000

theorem same_l0 (a : List ByteArray) (ha : a.length ≤ 4611686018427387904) : ∀ (r p : List ByteArray), a = p ++ r → Ev (fun k => spec_TxSameTexts.l0 k a a (a.length : Int) (p.length : Int)) true := by
  intro r
  induction r with
  | nil =>
    intro p hp
    refine Ev.step (f := fun _ => some true) (fun k => ?_) (Ev.now _)
    simp only [spec_TxSameTexts.l0]
    rw [if_neg (by rw [hp]; simp)]
  | cons q r ih =>
    intro p hp
    have hlen : a.length = p.length + r.length + 1 := by rw [hp]; simp; omega
    refine Ev.step (f := fun k => spec_TxSameTexts.l0 k a a (a.length : Int) ((p ++ [q]).length : Int)) (fun k => ?_) (ih (p ++ [q]) (by rw [hp]; simp))
    simp only [spec_TxSameTexts.l0]
    rw [if_pos (by omega), if_pos (by omega), if_pos (by omega), if_pos (by omega), if_pos trivial, succ_len (q := q) (by omega)]
/-- The same texts are told to be the same. -/
theorem same_ev (a : List ByteArray) (ha : a.length ≤ 4611686018427387904) : Ev (fun k => spec_TxSameTexts.f k a a) true := by
  unfold spec_TxSameTexts.f
  exact Ev.congr (f := fun k => spec_TxSameTexts.l0 k a a (a.length : Int) 0) (fun k => by rw [if_pos rfl]) (same_l0 a ha a [] rfl)

/-- What is rendered, as lines. -/
def linesOf (m : Int) : Option (List ByteArray) := (spec_LsExample.f).bind fun t126 => ((spec_LsSteps.f 400 t126).bind fun t129 => ((impl_ListNamed.f m).bind fun bt132 => ((impl_ListRender.f t129 bt132.1 bt132.2.1 bt132.2.2.1 bt132.2.2.2.1 bt132.2.2.2.2.1 bt132.2.2.2.2.2.1 bt132.2.2.2.2.2.2.1 bt132.2.2.2.2.2.2.2.1 bt132.2.2.2.2.2.2.2.2).bind fun t141 => (spec_TxLines.f 400 t141))))
def bytes (l : Option (List ByteArray)) : Option (List (List UInt8)) := l.map fun l => l.map fun s => s.data.toList
theorem map_bytes : ∀ (x y : List ByteArray), (x.map fun s => s.data.toList) = (y.map fun s => s.data.toList) → x = y
  | [], [], _ => rfl
  | [], _ :: _, h => by simp at h
  | _ :: _, [], h => by simp at h
  | a :: x, b :: y, h => by
    simp only [List.map_cons, List.cons.injEq] at h
    rw [bytes_ext h.1, map_bytes x y h.2]
theorem bytes_inj {a b : Option (List ByteArray)} (h : bytes a = bytes b) : a = b := by
  cases a <;> cases b
  · rfl
  · simp [bytes] at h
  · simp [bytes] at h
  · simp only [bytes, Option.map_some, Option.some.injEq] at h
    rw [map_bytes _ _ h]
theorem e0 : bytes (linesOf 0) = bytes (spec_LsFigure.f 0) := by kernel_rfl
theorem e1 : bytes (linesOf 1) = bytes (spec_LsFigure.f 1) := by kernel_rfl
theorem e2 : bytes (linesOf 2) = bytes (spec_LsFigure.f 2) := by kernel_rfl
theorem e3 : bytes (linesOf 3) = bytes (spec_LsFigure.f 3) := by kernel_rfl
theorem e4 : bytes (linesOf 4) = bytes (spec_LsFigure.f 4) := by kernel_rfl
theorem e5 : bytes (linesOf 5) = bytes (spec_LsFigure.f 5) := by kernel_rfl
theorem e6 : bytes (linesOf 6) = bytes (spec_LsFigure.f 6) := by kernel_rfl
theorem e7 : bytes (linesOf 7) = bytes (spec_LsFigure.f 7) := by kernel_rfl
theorem e8 : bytes (linesOf 8) = bytes (spec_LsFigure.f 8) := by kernel_rfl
theorem e9 : bytes (linesOf 9) = bytes (spec_LsFigure.f 9) := by kernel_rfl
theorem e10 : bytes (linesOf 10) = bytes (spec_LsFigure.f 10) := by kernel_rfl
theorem g0 : ((spec_LsFigure.f 0).map fun l => decide (l.length ≤ 100)) = some true := by kernel_rfl
theorem g1 : ((spec_LsFigure.f 1).map fun l => decide (l.length ≤ 100)) = some true := by kernel_rfl
theorem g2 : ((spec_LsFigure.f 2).map fun l => decide (l.length ≤ 100)) = some true := by kernel_rfl
theorem g3 : ((spec_LsFigure.f 3).map fun l => decide (l.length ≤ 100)) = some true := by kernel_rfl
theorem g4 : ((spec_LsFigure.f 4).map fun l => decide (l.length ≤ 100)) = some true := by kernel_rfl
theorem g5 : ((spec_LsFigure.f 5).map fun l => decide (l.length ≤ 100)) = some true := by kernel_rfl
theorem g6 : ((spec_LsFigure.f 6).map fun l => decide (l.length ≤ 100)) = some true := by kernel_rfl
theorem g7 : ((spec_LsFigure.f 7).map fun l => decide (l.length ≤ 100)) = some true := by kernel_rfl
theorem g8 : ((spec_LsFigure.f 8).map fun l => decide (l.length ≤ 100)) = some true := by kernel_rfl
theorem g9 : ((spec_LsFigure.f 9).map fun l => decide (l.length ≤ 100)) = some true := by kernel_rfl
theorem g10 : ((spec_LsFigure.f 10).map fun l => decide (l.length ≤ 100)) = some true := by kernel_rfl
def bodyOf (k : Nat) (m : Int) : Option Bool := (spec_LsExample.f).bind fun t126 => ((spec_LsSteps.f k t126).bind fun t129 => ((impl_ListNamed.f m).bind fun bt132 => ((impl_ListRender.f t129 bt132.1 bt132.2.1 bt132.2.2.1 bt132.2.2.2.1 bt132.2.2.2.2.1 bt132.2.2.2.2.2.1 bt132.2.2.2.2.2.2.1 bt132.2.2.2.2.2.2.2.1 bt132.2.2.2.2.2.2.2.2).bind fun t141 => ((spec_TxLines.f k t141).bind fun t142 => ((spec_LsFigure.f m).bind fun t145 => ((spec_TxSameTexts.f k t142 t145).bind fun t148 => (some t148)))))))
theorem law_of (m : Int) (he : bytes (linesOf m) = bytes (spec_LsFigure.f m)) (hg : ((spec_LsFigure.f m).map fun l => decide (l.length ≤ 100)) = some true) : ∃ k, bodyOf k m = some true := by
  have he := bytes_inj he
  obtain ⟨L, hL, hlen⟩ := Option.map_eq_some_iff.mp hg
  have hlen := of_decide_eq_true hlen
  rw [hL] at he
  unfold linesOf at he
  obtain ⟨ex, hex, he⟩ := Option.bind_eq_some_iff.mp he
  obtain ⟨t, ht, he⟩ := Option.bind_eq_some_iff.mp he
  obtain ⟨st, hst, he⟩ := Option.bind_eq_some_iff.mp he
  obtain ⟨s, hs, he⟩ := Option.bind_eq_some_iff.mp he
  have v1 : Ev (fun k => spec_LsSteps.f k ex) t := Ev.of (fun k => spec_LsSteps.mono ex k) ht
  have v2 : Ev (fun k => spec_TxLines.f k s) L := Ev.of (fun k => spec_TxLines.mono s k) he
  have v3 := same_ev L (by omega)
  have w3 : Ev (fun k => (spec_TxSameTexts.f k L L).bind fun t148 => (some t148)) true := Ev.bind (f := fun _ t148 => some t148) v3 (Ev.now _)
  have w2 : Ev (fun k => (spec_TxLines.f k s).bind fun t142 => ((spec_LsFigure.f m).bind fun t145 => ((spec_TxSameTexts.f k t142 t145).bind fun t148 => (some t148)))) true :=
    Ev.bind (f := fun k t142 => ((spec_LsFigure.f m).bind fun t145 => ((spec_TxSameTexts.f k t142 t145).bind fun t148 => (some t148)))) v2 (by rw [hL]; exact w3)
  have w1 : Ev (fun k => (spec_LsSteps.f k ex).bind fun t129 => ((impl_ListNamed.f m).bind fun bt132 => ((impl_ListRender.f t129 bt132.1 bt132.2.1 bt132.2.2.1 bt132.2.2.2.1 bt132.2.2.2.2.1 bt132.2.2.2.2.2.1 bt132.2.2.2.2.2.2.1 bt132.2.2.2.2.2.2.2.1 bt132.2.2.2.2.2.2.2.2).bind fun t141 => ((spec_TxLines.f k t141).bind fun t142 => ((spec_LsFigure.f m).bind fun t145 => ((spec_TxSameTexts.f k t142 t145).bind fun t148 => (some t148))))))) true := by
    refine Ev.bind (f := fun k t129 => ((impl_ListNamed.f m).bind fun bt132 => ((impl_ListRender.f t129 bt132.1 bt132.2.1 bt132.2.2.1 bt132.2.2.2.1 bt132.2.2.2.2.1 bt132.2.2.2.2.2.1 bt132.2.2.2.2.2.2.1 bt132.2.2.2.2.2.2.2.1 bt132.2.2.2.2.2.2.2.2).bind fun t141 => ((spec_TxLines.f k t141).bind fun t142 => ((spec_LsFigure.f m).bind fun t145 => ((spec_TxSameTexts.f k t142 t145).bind fun t148 => (some t148))))))) v1 ?_
    rw [hst]
    simp only [Option.bind_some]
    rw [hs]
    exact w2
  obtain ⟨k, hk⟩ := Ev.rounds w1
  exact ⟨k, by unfold bodyOf; rw [hex]; exact hk⟩
theorem FnListFigure : laws_FnListFigure.Pure := by
  intro a0 h
  obtain ⟨h0, h1⟩ := wf_u8 h
  have key : ∀ m : Int, 0 ≤ m → m < 11 → ∃ k, bodyOf k m = some true := by
    intro m m0 m1
    have : m = 0 ∨ m = 1 ∨ m = 2 ∨ m = 3 ∨ m = 4 ∨ m = 5 ∨ m = 6 ∨ m = 7 ∨ m = 8 ∨ m = 9 ∨ m = 10 := by omega
    rcases this with rfl | rfl | rfl | rfl | rfl | rfl | rfl | rfl | rfl | rfl | rfl
    · exact law_of 0 e0 g0
    · exact law_of 1 e1 g1
    · exact law_of 2 e2 g2
    · exact law_of 3 e3 g3
    · exact law_of 4 e4 g4
    · exact law_of 5 e5 g5
    · exact law_of 6 e6 g6
    · exact law_of 7 e7 g7
    · exact law_of 8 e8 g8
    · exact law_of 9 e9 g9
    · exact law_of 10 e10 g10
  have hm : wrap64 (Int.tmod a0 11) = a0 % 11 := by
    rw [Int.tmod_eq_emod_of_nonneg h0, wrap64_id (by omega) (by omega)]
  obtain ⟨k, hk⟩ := key (wrap64 (Int.tmod a0 11)) (by rw [hm]; omega) (by rw [hm]; omega)
  exact ⟨k, hk⟩
end Go.Proofs.YtmakcmggicedfaaDoor.Pure
