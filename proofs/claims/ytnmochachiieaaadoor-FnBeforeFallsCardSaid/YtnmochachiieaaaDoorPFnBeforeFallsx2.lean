-- Written by hprint.py, a program of this session
import Derived.Test.YtnmochachiieaaaDoorPFnBeforeFallsx0
import Derived.Test.YtnmochachiieaaaDoorPFnBeforeFallsx1
namespace Go.Proofs.YtnmochachiieaaaDoor.PFnBeforeFalls
open Go.RowKit Go.Proofs.YtnmochachiieaaaDoorW.PrintWords Go.Proofs.YtnmochachiieaaaDoorW.PrintLast Go.Proofs.YtnmochachiieaaaDoorW.PrintMore
attribute [local go_sem] max2_int min2_int max_two min_two max_three min_three max_four min_four   -- for this text's walks alone
set_option linter.unusedVariables false
set_option linter.unusedSimpArgs false

/-! ### lightstrconv_underscoreOK: function 41 -/
mutual
def lightstrconv_underscoreOK.j0 : Nat → ByteArray → Bool → Option (Bool)
  | 0, _, _ => none
  | k + 1, x0, x18 => if x18 = true then (if 1 ≤ (x0.size : Int) then (lightstrconv_underscoreOK.j1 k (x0.extract 1 x0.size)) else (none)) else (lightstrconv_underscoreOK.j1 k x0)
def lightstrconv_underscoreOK.j1 : Nat → ByteArray → Option (Bool)
  | 0, _ => none
  | k + 1, x0 => if (x0.size : Int) ≥ 2 then (if 0 < (x0.size : Int) then (if (bt x0 0) = 48 then (if 1 < (x0.size : Int) then ((lightstrconv_lower.f (bt x0 1)).bind fun t150 => (if t150 = 98 then (lightstrconv_underscoreOK.j2 k x0 94 false true) else ((lightstrconv_lower.f (bt x0 1)).bind fun t151 => (if t151 = 111 then (lightstrconv_underscoreOK.j2 k x0 94 false true) else ((lightstrconv_lower.f (bt x0 1)).bind fun t152 => (lightstrconv_underscoreOK.j2 k x0 94 false (t152 == 120))))))) else (none)) else (lightstrconv_underscoreOK.j2 k x0 94 false false)) else (none)) else (lightstrconv_underscoreOK.j2 k x0 94 false false)
def lightstrconv_underscoreOK.j2 : Nat → ByteArray → Int → Bool → Bool → Option (Bool)
  | 0, _, _, _, _ => none
  | k + 1, x0, x3, x4, x46 => if x46 = true then (if 1 < (x0.size : Int) then ((lightstrconv_lower.f (bt x0 1)).bind fun t153 => (if 2 ≤ (x0.size : Int) then (lightstrconv_underscoreOK.j3 k (x0.extract 2 x0.size) 48 (t153 == 120)) else (none))) else (none)) else (lightstrconv_underscoreOK.j3 k x0 x3 x4)
def lightstrconv_underscoreOK.j3 : Nat → ByteArray → Int → Bool → Option (Bool)
  | 0, _, _, _ => none
  | k + 1, x0, x3, x4 => lightstrconv_underscoreOK.l0 k x0 x3 x4 0
def lightstrconv_underscoreOK.l0 : Nat → ByteArray → Int → Bool → Int → Option (Bool)
  | 0, _, _, _, _ => none
  | k + 1, x0, x3, x4, x5 => if x5 < (x0.size : Int) then (if 0 ≤ x5 then (if 48 ≤ (bt x0 x5) then (if (bt x0 x5) ≤ 57 then (lightstrconv_underscoreOK.j5 k x0 x3 x4 x5 (bt x0 x5) true) else (if x4 = true then ((lightstrconv_lower.f (bt x0 x5)).bind fun t154 => (if 97 ≤ t154 then ((lightstrconv_lower.f (bt x0 x5)).bind fun t155 => (lightstrconv_underscoreOK.j5 k x0 x3 x4 x5 (bt x0 x5) (decide (t155 ≤ 102)))) else (lightstrconv_underscoreOK.j5 k x0 x3 x4 x5 (bt x0 x5) false))) else (lightstrconv_underscoreOK.j5 k x0 x3 x4 x5 (bt x0 x5) false))) else (if x4 = true then ((lightstrconv_lower.f (bt x0 x5)).bind fun t156 => (if 97 ≤ t156 then ((lightstrconv_lower.f (bt x0 x5)).bind fun t157 => (lightstrconv_underscoreOK.j5 k x0 x3 x4 x5 (bt x0 x5) (decide (t157 ≤ 102)))) else (lightstrconv_underscoreOK.j5 k x0 x3 x4 x5 (bt x0 x5) false))) else (lightstrconv_underscoreOK.j5 k x0 x3 x4 x5 (bt x0 x5) false))) else (none)) else (some (x3 != 95))
def lightstrconv_underscoreOK.j5 : Nat → ByteArray → Int → Bool → Int → Int → Bool → Option (Bool)
  | 0, _, _, _, _, _, _ => none
  | k + 1, x0, x3, x4, x5, x6, x62 => if x62 = true then (lightstrconv_underscoreOK.l0 k x0 48 x4 (wrap64 (x5 + 1))) else (if x6 = 95 then (lightstrconv_underscoreOK.j6 k x0 x3 x4 x5 x6 (x3 != 48)) else (lightstrconv_underscoreOK.j6 k x0 x3 x4 x5 x6 false))
def lightstrconv_underscoreOK.j6 : Nat → ByteArray → Int → Bool → Int → Int → Bool → Option (Bool)
  | 0, _, _, _, _, _, _ => none
  | k + 1, x0, x3, x4, x5, x6, x82 => if x82 = true then (lightstrconv_underscoreOK.j7 k x0 x4 x5 x6 x82) else (if x6 = 95 then (lightstrconv_underscoreOK.j7 k x0 x4 x5 x6 false) else (lightstrconv_underscoreOK.j7 k x0 x4 x5 x6 (x3 == 95)))
def lightstrconv_underscoreOK.j7 : Nat → ByteArray → Bool → Int → Int → Bool → Option (Bool)
  | 0, _, _, _, _, _ => none
  | k + 1, x0, x4, x5, x6, x82 => if x82 = true then (some false) else (if x6 = 95 then (lightstrconv_underscoreOK.l0 k x0 95 x4 (wrap64 (x5 + 1))) else (lightstrconv_underscoreOK.l0 k x0 33 x4 (wrap64 (x5 + 1))))
end
def lightstrconv_underscoreOK.f (k : Nat) (a0 : ByteArray) : Option (Bool) := if a0.toList = ([] : List UInt8) then (lightstrconv_underscoreOK.j0 k a0 false) else (if 0 < (a0.size : Int) then (if (bt a0 0) = 45 then (lightstrconv_underscoreOK.j0 k a0 true) else (lightstrconv_underscoreOK.j0 k a0 ((bt a0 0) == 43))) else (none))
theorem lightstrconv_underscoreOK.mono_l : ∀ k, (∀ y0 y1, LeO (lightstrconv_underscoreOK.j0 k y0 y1) (lightstrconv_underscoreOK.j0 (k + 1) y0 y1)) ∧ (∀ y0, LeO (lightstrconv_underscoreOK.j1 k y0) (lightstrconv_underscoreOK.j1 (k + 1) y0)) ∧ (∀ y0 y1 y2 y3, LeO (lightstrconv_underscoreOK.j2 k y0 y1 y2 y3) (lightstrconv_underscoreOK.j2 (k + 1) y0 y1 y2 y3)) ∧ (∀ y0 y1 y2, LeO (lightstrconv_underscoreOK.j3 k y0 y1 y2) (lightstrconv_underscoreOK.j3 (k + 1) y0 y1 y2)) ∧ (∀ y0 y1 y2 y3, LeO (lightstrconv_underscoreOK.l0 k y0 y1 y2 y3) (lightstrconv_underscoreOK.l0 (k + 1) y0 y1 y2 y3)) ∧ (∀ y0 y1 y2 y3 y4 y5, LeO (lightstrconv_underscoreOK.j5 k y0 y1 y2 y3 y4 y5) (lightstrconv_underscoreOK.j5 (k + 1) y0 y1 y2 y3 y4 y5)) ∧ (∀ y0 y1 y2 y3 y4 y5, LeO (lightstrconv_underscoreOK.j6 k y0 y1 y2 y3 y4 y5) (lightstrconv_underscoreOK.j6 (k + 1) y0 y1 y2 y3 y4 y5)) ∧ (∀ y0 y1 y2 y3 y4, LeO (lightstrconv_underscoreOK.j7 k y0 y1 y2 y3 y4) (lightstrconv_underscoreOK.j7 (k + 1) y0 y1 y2 y3 y4))
  | 0 => ⟨fun _ _ r h => by simp [lightstrconv_underscoreOK.j0] at h, fun _ r h => by simp [lightstrconv_underscoreOK.j1] at h, fun _ _ _ _ r h => by simp [lightstrconv_underscoreOK.j2] at h, fun _ _ _ r h => by simp [lightstrconv_underscoreOK.j3] at h, fun _ _ _ _ r h => by simp [lightstrconv_underscoreOK.l0] at h, fun _ _ _ _ _ _ r h => by simp [lightstrconv_underscoreOK.j5] at h, fun _ _ _ _ _ _ r h => by simp [lightstrconv_underscoreOK.j6] at h, fun _ _ _ _ _ r h => by simp [lightstrconv_underscoreOK.j7] at h⟩
  | k + 1 => by
    obtain ⟨ih0, ih1, ih2, ih3, ih4, ih5, ih6, ih7⟩ := lightstrconv_underscoreOK.mono_l k
    refine ⟨?_, ?_, ?_, ?_, ?_, ?_, ?_, ?_⟩
    · intro y0 y1
      unfold lightstrconv_underscoreOK.j0
      repeat' first
      | (with_reducible exact ih0 _ _)
      | (with_reducible exact ih1 _)
      | (with_reducible exact ih2 _ _ _ _)
      | (with_reducible exact ih3 _ _ _)
      | (with_reducible exact ih4 _ _ _ _)
      | (with_reducible exact ih5 _ _ _ _ _ _)
      | (with_reducible exact ih6 _ _ _ _ _ _)
      | (with_reducible exact ih7 _ _ _ _ _)
      | (with_reducible exact LeO.refl _)
      | (with_reducible exact LeO.none _)
      | (with_reducible refine LeO.ite ?_ ?_)
      | (with_reducible refine LeO.bind ?_ (fun _ => ?_))
      | exact ih0 _ _
      | exact ih1 _
      | exact ih2 _ _ _ _
      | exact ih3 _ _ _
      | exact ih4 _ _ _ _
      | exact ih5 _ _ _ _ _ _
      | exact ih6 _ _ _ _ _ _
      | exact ih7 _ _ _ _ _
      | exact LeO.none _
      | refine LeO.ite ?_ ?_
      | refine LeO.bind ?_ (fun _ => ?_)
    · intro y0
      unfold lightstrconv_underscoreOK.j1
      repeat' first
      | (with_reducible exact ih0 _ _)
      | (with_reducible exact ih1 _)
      | (with_reducible exact ih2 _ _ _ _)
      | (with_reducible exact ih3 _ _ _)
      | (with_reducible exact ih4 _ _ _ _)
      | (with_reducible exact ih5 _ _ _ _ _ _)
      | (with_reducible exact ih6 _ _ _ _ _ _)
      | (with_reducible exact ih7 _ _ _ _ _)
      | (with_reducible exact LeO.refl _)
      | (with_reducible exact LeO.none _)
      | (with_reducible refine LeO.ite ?_ ?_)
      | (with_reducible refine LeO.bind ?_ (fun _ => ?_))
      | exact ih0 _ _
      | exact ih1 _
      | exact ih2 _ _ _ _
      | exact ih3 _ _ _
      | exact ih4 _ _ _ _
      | exact ih5 _ _ _ _ _ _
      | exact ih6 _ _ _ _ _ _
      | exact ih7 _ _ _ _ _
      | exact LeO.none _
      | refine LeO.ite ?_ ?_
      | refine LeO.bind ?_ (fun _ => ?_)
    · intro y0 y1 y2 y3
      unfold lightstrconv_underscoreOK.j2
      repeat' first
      | (with_reducible exact ih0 _ _)
      | (with_reducible exact ih1 _)
      | (with_reducible exact ih2 _ _ _ _)
      | (with_reducible exact ih3 _ _ _)
      | (with_reducible exact ih4 _ _ _ _)
      | (with_reducible exact ih5 _ _ _ _ _ _)
      | (with_reducible exact ih6 _ _ _ _ _ _)
      | (with_reducible exact ih7 _ _ _ _ _)
      | (with_reducible exact LeO.refl _)
      | (with_reducible exact LeO.none _)
      | (with_reducible refine LeO.ite ?_ ?_)
      | (with_reducible refine LeO.bind ?_ (fun _ => ?_))
      | exact ih0 _ _
      | exact ih1 _
      | exact ih2 _ _ _ _
      | exact ih3 _ _ _
      | exact ih4 _ _ _ _
      | exact ih5 _ _ _ _ _ _
      | exact ih6 _ _ _ _ _ _
      | exact ih7 _ _ _ _ _
      | exact LeO.none _
      | refine LeO.ite ?_ ?_
      | refine LeO.bind ?_ (fun _ => ?_)
    · intro y0 y1 y2
      unfold lightstrconv_underscoreOK.j3
      repeat' first
      | (with_reducible exact ih0 _ _)
      | (with_reducible exact ih1 _)
      | (with_reducible exact ih2 _ _ _ _)
      | (with_reducible exact ih3 _ _ _)
      | (with_reducible exact ih4 _ _ _ _)
      | (with_reducible exact ih5 _ _ _ _ _ _)
      | (with_reducible exact ih6 _ _ _ _ _ _)
      | (with_reducible exact ih7 _ _ _ _ _)
      | (with_reducible exact LeO.refl _)
      | (with_reducible exact LeO.none _)
      | (with_reducible refine LeO.ite ?_ ?_)
      | (with_reducible refine LeO.bind ?_ (fun _ => ?_))
      | exact ih0 _ _
      | exact ih1 _
      | exact ih2 _ _ _ _
      | exact ih3 _ _ _
      | exact ih4 _ _ _ _
      | exact ih5 _ _ _ _ _ _
      | exact ih6 _ _ _ _ _ _
      | exact ih7 _ _ _ _ _
      | exact LeO.none _
      | refine LeO.ite ?_ ?_
      | refine LeO.bind ?_ (fun _ => ?_)
    · intro y0 y1 y2 y3
      unfold lightstrconv_underscoreOK.l0
      repeat' first
      | (with_reducible exact ih0 _ _)
      | (with_reducible exact ih1 _)
      | (with_reducible exact ih2 _ _ _ _)
      | (with_reducible exact ih3 _ _ _)
      | (with_reducible exact ih4 _ _ _ _)
      | (with_reducible exact ih5 _ _ _ _ _ _)
      | (with_reducible exact ih6 _ _ _ _ _ _)
      | (with_reducible exact ih7 _ _ _ _ _)
      | (with_reducible exact LeO.refl _)
      | (with_reducible exact LeO.none _)
      | (with_reducible refine LeO.ite ?_ ?_)
      | (with_reducible refine LeO.bind ?_ (fun _ => ?_))
      | exact ih0 _ _
      | exact ih1 _
      | exact ih2 _ _ _ _
      | exact ih3 _ _ _
      | exact ih4 _ _ _ _
      | exact ih5 _ _ _ _ _ _
      | exact ih6 _ _ _ _ _ _
      | exact ih7 _ _ _ _ _
      | exact LeO.none _
      | refine LeO.ite ?_ ?_
      | refine LeO.bind ?_ (fun _ => ?_)
    · intro y0 y1 y2 y3 y4 y5
      unfold lightstrconv_underscoreOK.j5
      repeat' first
      | (with_reducible exact ih0 _ _)
      | (with_reducible exact ih1 _)
      | (with_reducible exact ih2 _ _ _ _)
      | (with_reducible exact ih3 _ _ _)
      | (with_reducible exact ih4 _ _ _ _)
      | (with_reducible exact ih5 _ _ _ _ _ _)
      | (with_reducible exact ih6 _ _ _ _ _ _)
      | (with_reducible exact ih7 _ _ _ _ _)
      | (with_reducible exact LeO.refl _)
      | (with_reducible exact LeO.none _)
      | (with_reducible refine LeO.ite ?_ ?_)
      | (with_reducible refine LeO.bind ?_ (fun _ => ?_))
      | exact ih0 _ _
      | exact ih1 _
      | exact ih2 _ _ _ _
      | exact ih3 _ _ _
      | exact ih4 _ _ _ _
      | exact ih5 _ _ _ _ _ _
      | exact ih6 _ _ _ _ _ _
      | exact ih7 _ _ _ _ _
      | exact LeO.none _
      | refine LeO.ite ?_ ?_
      | refine LeO.bind ?_ (fun _ => ?_)
    · intro y0 y1 y2 y3 y4 y5
      unfold lightstrconv_underscoreOK.j6
      repeat' first
      | (with_reducible exact ih0 _ _)
      | (with_reducible exact ih1 _)
      | (with_reducible exact ih2 _ _ _ _)
      | (with_reducible exact ih3 _ _ _)
      | (with_reducible exact ih4 _ _ _ _)
      | (with_reducible exact ih5 _ _ _ _ _ _)
      | (with_reducible exact ih6 _ _ _ _ _ _)
      | (with_reducible exact ih7 _ _ _ _ _)
      | (with_reducible exact LeO.refl _)
      | (with_reducible exact LeO.none _)
      | (with_reducible refine LeO.ite ?_ ?_)
      | (with_reducible refine LeO.bind ?_ (fun _ => ?_))
      | exact ih0 _ _
      | exact ih1 _
      | exact ih2 _ _ _ _
      | exact ih3 _ _ _
      | exact ih4 _ _ _ _
      | exact ih5 _ _ _ _ _ _
      | exact ih6 _ _ _ _ _ _
      | exact ih7 _ _ _ _ _
      | exact LeO.none _
      | refine LeO.ite ?_ ?_
      | refine LeO.bind ?_ (fun _ => ?_)
    · intro y0 y1 y2 y3 y4
      unfold lightstrconv_underscoreOK.j7
      repeat' first
      | (with_reducible exact ih0 _ _)
      | (with_reducible exact ih1 _)
      | (with_reducible exact ih2 _ _ _ _)
      | (with_reducible exact ih3 _ _ _)
      | (with_reducible exact ih4 _ _ _ _)
      | (with_reducible exact ih5 _ _ _ _ _ _)
      | (with_reducible exact ih6 _ _ _ _ _ _)
      | (with_reducible exact ih7 _ _ _ _ _)
      | (with_reducible exact LeO.refl _)
      | (with_reducible exact LeO.none _)
      | (with_reducible refine LeO.ite ?_ ?_)
      | (with_reducible refine LeO.bind ?_ (fun _ => ?_))
      | exact ih0 _ _
      | exact ih1 _
      | exact ih2 _ _ _ _
      | exact ih3 _ _ _
      | exact ih4 _ _ _ _
      | exact ih5 _ _ _ _ _ _
      | exact ih6 _ _ _ _ _ _
      | exact ih7 _ _ _ _ _
      | exact LeO.none _
      | refine LeO.ite ?_ ?_
      | refine LeO.bind ?_ (fun _ => ?_)
theorem lightstrconv_underscoreOK.mono : ∀ a0 k, LeO (lightstrconv_underscoreOK.f k a0) (lightstrconv_underscoreOK.f (k + 1) a0) := by
  intro a0 k
  obtain ⟨ih0, ih1, ih2, ih3, ih4, ih5, ih6, ih7⟩ := lightstrconv_underscoreOK.mono_l k
  unfold lightstrconv_underscoreOK.f
  repeat' first
      | (with_reducible exact ih0 _ _)
      | (with_reducible exact ih1 _)
      | (with_reducible exact ih2 _ _ _ _)
      | (with_reducible exact ih3 _ _ _)
      | (with_reducible exact ih4 _ _ _ _)
      | (with_reducible exact ih5 _ _ _ _ _ _)
      | (with_reducible exact ih6 _ _ _ _ _ _)
      | (with_reducible exact ih7 _ _ _ _ _)
      | (with_reducible exact LeO.refl _)
      | (with_reducible exact LeO.none _)
      | (with_reducible refine LeO.ite ?_ ?_)
      | (with_reducible refine LeO.bind ?_ (fun _ => ?_))
      | exact ih0 _ _
      | exact ih1 _
      | exact ih2 _ _ _ _
      | exact ih3 _ _ _
      | exact ih4 _ _ _ _
      | exact ih5 _ _ _ _ _ _
      | exact ih6 _ _ _ _ _ _
      | exact ih7 _ _ _ _ _
      | exact LeO.none _
      | refine LeO.ite ?_ ?_
      | refine LeO.bind ?_ (fun _ => ?_)
set_option maxHeartbeats 8000000 in
set_option maxRecDepth 100000 in
theorem lightstrconv_underscoreOK.calls (k : Nat) (a0 : ByteArray) (r : Bool) (w : World) (h : lightstrconv_underscoreOK.f k a0 = some r) :
    Calls Tryd.prog 41 #[.string a0] w fun e w' => e = .returned (.bool r) ∧ Drawn0 w w' := by
  have H : (if a0.toList = ([] : List UInt8) then (lightstrconv_underscoreOK.j0 k a0 false) else (if 0 < (a0.size : Int) then (if (bt a0 0) = 45 then (lightstrconv_underscoreOK.j0 k a0 true) else (lightstrconv_underscoreOK.j0 k a0 ((bt a0 0) == 43))) else (none))) = some r := h
  clear h
  have HC2 := Aside0.mk H
  clear H
  go_enter Tryd.func41, Tryd.ntmps41
  go_upto_region 1 with (fail)
  go_cut [18] (fun v18 wc => ∃ (kq : Nat) (x18_1 : Bool), v18 = .bool x18_1 ∧ Aside0 (lightstrconv_underscoreOK.j0 kq a0 x18_1 = some r) ∧ Aside0 (kq ≤ k) ∧ Drawn0 w wc)
  case first =>
    have H := HC2.out
    clear HC2
    by_cases c3 : a0.toList = ([] : List UInt8)
    · rw [if_pos c3] at H
      have c3b0 : (a0.toList == ([] : List UInt8)) = true := beq_iff_eq.mpr c3
      have c3b1 : (a0.toList != ([] : List UInt8)) = false := bne_eq_false_iff_eq.mpr c3
      clear c3
      (first | rw [c3b0] | (simp only [i64_w, i32_w]; rw [c3b0]) | skip)
      have H' := Aside0.mk H
      clear H
      go_wp2
      go_meet
      case rel => exact ⟨_, (false), (by first | rfl | (simp; done) | (simp [*]; done)), H', ⟨by first | omega | exact Nat.le_refl _⟩, by repeat (first | exact Drawn0.refl _ | apply Drawn0.step)⟩
    · rw [if_neg c3] at H
      have c3b0 : (a0.toList == ([] : List UInt8)) = false := beq_eq_false_iff_ne.mpr c3
      have c3b1 : (a0.toList != ([] : List UInt8)) = true := bne_iff_ne.mpr c3
      (first | rw [c3b0] | (simp only [i64_w, i32_w]; rw [c3b0]) | skip)
      by_cases c4 : 0 < (a0.size : Int)
      · rw [if_pos c4] at H
        have c4b0 : decide (0 < (a0.size : Int)) = true := decide_eq_true c4
        have c4b1 : decide (0 < a0.size) = true := decide_eq_true (by omega)
        clear c4
        by_cases c6 : (bt a0 0) = 45
        · rw [if_pos c6] at H
          have c6b0 : ((bt a0 0) == 45) = true := beq_iff_eq.mpr c6
          have c6b1 : ((bt a0 0) != 45) = false := bne_eq_false_iff_eq.mpr c6
          clear c6
          have H' := Aside0.mk H
          clear H
          have p5 : 0 ≤ (0 : Int) := (by omega)
          have q5 : 0 < a0.size := (by have : (0 : Int) < (a0.size : Int) := of_decide_eq_true (by first | (with_reducible assumption) | assumption); omega)
          have hx5 : ∀ h : 0 < a0.size, ((a0[0]'h).toNat : Int) = bt a0 0 := bt_at a0 0
          clear p5
          have qi5 : (0 < (a0.size : Int)) = True := eq_true (of_decide_eq_true (by first | (with_reducible assumption) | assumption))
          replace q5 := eq_true q5
          go_wp2
          go_meet
          case rel => exact ⟨_, (true), (by first | rfl | (simp; done) | (simp [*]; done)), H', ⟨by first | omega | exact Nat.le_refl _⟩, by repeat (first | exact Drawn0.refl _ | apply Drawn0.step)⟩
        · rw [if_neg c6] at H
          have c6b0 : ((bt a0 0) == 45) = false := beq_eq_false_iff_ne.mpr c6
          have c6b1 : ((bt a0 0) != 45) = true := bne_iff_ne.mpr c6
          have H' := Aside0.mk H
          clear H
          have p5 : 0 ≤ (0 : Int) := (by omega)
          have q5 : 0 < a0.size := (by have : (0 : Int) < (a0.size : Int) := of_decide_eq_true (by first | (with_reducible assumption) | assumption); omega)
          have hx5 : ∀ h : 0 < a0.size, ((a0[0]'h).toNat : Int) = bt a0 0 := bt_at a0 0
          clear p5
          have qi5 : (0 < (a0.size : Int)) = True := eq_true (of_decide_eq_true (by first | (with_reducible assumption) | assumption))
          replace q5 := eq_true q5
          have p7 : 0 ≤ (0 : Int) := (by omega)
          have q7 : 0 < a0.size := (by have : (0 : Int) < (a0.size : Int) := of_decide_eq_true (by first | (with_reducible assumption) | assumption); omega)
          have hx7 : ∀ h : 0 < a0.size, ((a0[0]'h).toNat : Int) = bt a0 0 := bt_at a0 0
          clear p7
          have qi7 : (0 < (a0.size : Int)) = True := eq_true (of_decide_eq_true (by first | (with_reducible assumption) | assumption))
          replace q7 := eq_true q7
          go_wp2
          go_meet
          case rel => exact ⟨_, (((bt a0 0) == 43)), (by first | rfl | (simp; done) | (simp [*]; done)), H', ⟨by first | omega | exact Nat.le_refl _⟩, by repeat (first | exact Drawn0.refl _ | apply Drawn0.step)⟩
      · rw [if_neg c4] at H
        exact absurd H (by simp)
  case rest =>
    clear HC2
    try clear p2
    try clear c3
    try clear c3b0
    try clear c3b1
    try clear c4
    try clear c4b0
    try clear c4b1
    try clear p5
    try clear q5
    try clear hx5
    try clear qi5
    try clear c6
    try clear c6b0
    try clear c6b1
    try clear p7
    try clear q7
    try clear hx7
    try clear qi7
    try clear p5
    try clear p7
    try clear q5
    try clear q7
    obtain ⟨kq, x18_1, rfl, HA, HJ1, ⟨mc1, rfl⟩⟩ := hcut
    cases kq with
    | zero => exact absurd HA.out (by simp [lightstrconv_underscoreOK.j0])
    | succ kj1 =>
      have H := HA.out
      clear HA
      simp only [lightstrconv_underscoreOK.j0] at H
      have HC8 := Aside0.mk H
      clear H
      go_upto_if 18 with (fail)
      go_cut [0] (fun v0 wc => ∃ (kq : Nat) (x0_7 : ByteArray), v0 = .string x0_7 ∧ Aside0 (lightstrconv_underscoreOK.j1 kq x0_7 = some r) ∧ Aside0 (kq ≤ kj1) ∧ Drawn0 w wc)
      case first =>
        have H := HC8.out
        clear HC8
        by_cases c9 : x18_1 = true
        · subst c9
          have H1 : (if 1 ≤ (a0.size : Int) then (lightstrconv_underscoreOK.j1 kj1 (a0.extract 1 a0.size)) else (none)) = some r := by rw [if_pos rfl] at H; exact H
          clear H
          have H := H1
          clear H1
          by_cases c10 : 1 ≤ (a0.size : Int)
          · rw [if_pos c10] at H
            have c10b0 := eq_true c10
            have c10b1 : decide (1 ≤ (a0.size : Int)) = true := decide_eq_true c10
            clear c10
            have H' := Aside0.mk H
            clear H
            go_wp2
            go_meet
            case rel => exact ⟨_, (a0.extract 1 a0.size), (by first | rfl | (simp; done) | (simp [*]; done)), H', ⟨by have := HJ1.out; first | omega | exact Nat.le_refl _⟩, by repeat (first | exact Drawn0.refl _ | apply Drawn0.step)⟩
          · rw [if_neg c10] at H
            exact absurd H (by simp)
        · replace c9 := Bool.eq_false_iff.mpr c9
          subst c9
          have H1 : (lightstrconv_underscoreOK.j1 kj1 a0) = some r := by rw [if_neg (show ¬ (false = true) by decide)] at H; exact H
          clear H
          have H := H1
          clear H1
          have H' := Aside0.mk H
          clear H
          go_wp2
          go_meet
          case rel => exact ⟨_, (a0), (by first | rfl | (simp; done) | (simp [*]; done)), H', ⟨by have := HJ1.out; first | omega | exact Nat.le_refl _⟩, by repeat (first | exact Drawn0.refl _ | apply Drawn0.step)⟩
      case rest =>
        clear HC8
        try clear c1
        try clear p2
        try clear c3
        try clear c3b0
        try clear c3b1
        try clear c4
        try clear c4b0
        try clear c4b1
        try clear p5
        try clear q5
        try clear hx5
        try clear qi5
        try clear c6
        try clear c6b0
        try clear c6b1
        try clear p7
        try clear q7
        try clear hx7
        try clear qi7
        try clear c9
        try clear c10
        try clear c10b0
        try clear c10b1
        try clear p2
        try clear p5
        try clear p7
        try clear q5
        try clear q7
        obtain ⟨kq, x0_7, rfl, HA, HJ7, ⟨mc7, rfl⟩⟩ := hcut
        cases kq with
        | zero => exact absurd HA.out (by simp [lightstrconv_underscoreOK.j1])
        | succ kj7 =>
          have H := HA.out
          clear HA
          simp only [lightstrconv_underscoreOK.j1] at H
          have HC11 := Aside0.mk H
          clear H
          go_upto_region 4 with (fail)
          go_cut [46] (fun v46 wc => ∃ (kq : Nat) (x46_10 : Bool), v46 = .bool x46_10 ∧ Aside0 (lightstrconv_underscoreOK.j2 kq x0_7 94 false x46_10 = some r) ∧ Aside0 (kq ≤ kj7) ∧ Drawn0 w wc)
          case first =>
            have H := HC11.out
            clear HC11
            by_cases c12 : (x0_7.size : Int) ≥ 2
            · rw [if_pos c12] at H
              have c12b0 : decide (2 ≤ (x0_7.size : Int)) = true := decide_eq_true c12
              have c12b1 : decide (2 ≤ x0_7.size) = true := decide_eq_true (by omega)
              clear c12
              (first | rw [c12b0] | (simp only [i64_w, i32_w]; rw [c12b0]) | skip)
              by_cases c13 : 0 < (x0_7.size : Int)
              · rw [if_pos c13] at H
                have c13b0 : decide (0 < (x0_7.size : Int)) = true := decide_eq_true c13
                have c13b1 : decide (0 < x0_7.size) = true := decide_eq_true (by omega)
                clear c13
                by_cases c15 : (bt x0_7 0) = 48
                · rw [if_pos c15] at H
                  have c15b0 : ((bt x0_7 0) == 48) = true := beq_iff_eq.mpr c15
                  have c15b1 : ((bt x0_7 0) != 48) = false := bne_eq_false_iff_eq.mpr c15
                  clear c15
                  by_cases c16 : 1 < (x0_7.size : Int)
                  · rw [if_pos c16] at H
                    have c16b0 : decide (1 < (x0_7.size : Int)) = true := decide_eq_true c16
                    have c16b1 : decide (1 < x0_7.size) = true := decide_eq_true (by omega)
                    clear c16
                    replace H := Option.bind_eq_some_iff.mp H
                    obtain ⟨t150, A180, H⟩ := H
                    replace H : (if t150 = 98 then (lightstrconv_underscoreOK.j2 kj7 x0_7 94 false true) else ((lightstrconv_lower.f (bt x0_7 1)).bind fun t151 => (if t151 = 111 then (lightstrconv_underscoreOK.j2 kj7 x0_7 94 false true) else ((lightstrconv_lower.f (bt x0_7 1)).bind fun t152 => (lightstrconv_underscoreOK.j2 kj7 x0_7 94 false (t152 == 120)))))) = some r := H
                    have A18 := Aside0.mk A180
                    clear A180
                    by_cases c19 : t150 = 98
                    · rw [if_pos c19] at H
                      have c19b0 : (t150 == 98) = true := beq_iff_eq.mpr c19
                      have c19b1 : (t150 != 98) = false := bne_eq_false_iff_eq.mpr c19
                      clear c19
                      have H' := Aside0.mk H
                      clear H
                      have p14 : 0 ≤ (0 : Int) := (by omega)
                      have q14 : 0 < x0_7.size := (by have : (0 : Int) < (x0_7.size : Int) := of_decide_eq_true (by first | (with_reducible assumption) | assumption); omega)
                      have hx14 : ∀ h : 0 < x0_7.size, ((x0_7[0]'h).toNat : Int) = bt x0_7 0 := bt_at x0_7 0
                      clear p14
                      have qi14 : (0 < (x0_7.size : Int)) = True := eq_true (of_decide_eq_true (by first | (with_reducible assumption) | assumption))
                      replace q14 := eq_true q14
                      have p17 : 0 ≤ (1 : Int) := (by omega)
                      have q17 : 1 < x0_7.size := (by have : (1 : Int) < (x0_7.size : Int) := of_decide_eq_true (by first | (with_reducible assumption) | assumption); omega)
                      have hx17 : ∀ h : 1 < x0_7.size, ((x0_7[1]'h).toNat : Int) = bt x0_7 1 := bt_at x0_7 1
                      clear p17
                      have qi17 : (1 < (x0_7.size : Int)) = True := eq_true (of_decide_eq_true (by first | (with_reducible assumption) | assumption))
                      replace q17 := eq_true q17
                      go_wp2_with (first | (go_at_call 37; (with_reducible refine (lightstrconv_lower.calls (bt x0_7 1) t150 _ A18.out).mono ?_); rintro e w' ⟨rfl, ⟨nd, rfl⟩⟩))
                      go_meet
                      case rel => exact ⟨_, (true), (by first | rfl | (simp; done) | (simp [*]; done)), H', ⟨by have := HJ1.out; have := HJ7.out; first | omega | exact Nat.le_refl _⟩, by repeat (first | exact Drawn0.refl _ | apply Drawn0.step)⟩
                    · rw [if_neg c19] at H
                      have c19b0 : (t150 == 98) = false := beq_eq_false_iff_ne.mpr c19
                      have c19b1 : (t150 != 98) = true := bne_iff_ne.mpr c19
                      replace H := Option.bind_eq_some_iff.mp H
                      obtain ⟨t151, A210, H⟩ := H
                      obtain rfl := Option.some.inj (A18.out.symm.trans A210)
                      replace H : (if t150 = 111 then (lightstrconv_underscoreOK.j2 kj7 x0_7 94 false true) else ((lightstrconv_lower.f (bt x0_7 1)).bind fun t152 => (lightstrconv_underscoreOK.j2 kj7 x0_7 94 false (t152 == 120)))) = some r := H
                      have A21 := Aside0.mk A210
                      clear A210
                      by_cases c22 : t150 = 111
                      · rw [if_pos c22] at H
                        have c22b0 : (t150 == 111) = true := beq_iff_eq.mpr c22
                        have c22b1 : (t150 != 111) = false := bne_eq_false_iff_eq.mpr c22
                        clear c22
                        have H' := Aside0.mk H
                        clear H
                        have p14 : 0 ≤ (0 : Int) := (by omega)
                        have q14 : 0 < x0_7.size := (by have : (0 : Int) < (x0_7.size : Int) := of_decide_eq_true (by first | (with_reducible assumption) | assumption); omega)
                        have hx14 : ∀ h : 0 < x0_7.size, ((x0_7[0]'h).toNat : Int) = bt x0_7 0 := bt_at x0_7 0
                        clear p14
                        have qi14 : (0 < (x0_7.size : Int)) = True := eq_true (of_decide_eq_true (by first | (with_reducible assumption) | assumption))
                        replace q14 := eq_true q14
                        have p17 : 0 ≤ (1 : Int) := (by omega)
                        have q17 : 1 < x0_7.size := (by have : (1 : Int) < (x0_7.size : Int) := of_decide_eq_true (by first | (with_reducible assumption) | assumption); omega)
                        have hx17 : ∀ h : 1 < x0_7.size, ((x0_7[1]'h).toNat : Int) = bt x0_7 1 := bt_at x0_7 1
                        clear p17
                        have qi17 : (1 < (x0_7.size : Int)) = True := eq_true (of_decide_eq_true (by first | (with_reducible assumption) | assumption))
                        replace q17 := eq_true q17
                        go_wp2_with (first | (go_at_call 37; (with_reducible refine (lightstrconv_lower.calls (bt x0_7 1) t150 _ A18.out).mono ?_); rintro e w' ⟨rfl, ⟨nd, rfl⟩⟩; have p20 : 0 ≤ (1 : Int) := (by omega); have q20 : 1 < x0_7.size := (by have : (1 : Int) < (x0_7.size : Int) := of_decide_eq_true (by first | (with_reducible assumption) | assumption); omega); have hx20 : ∀ h : 1 < x0_7.size, ((x0_7[1]'h).toNat : Int) = bt x0_7 1 := bt_at x0_7 1; clear p20; have qi20 : (1 < (x0_7.size : Int)) = True := eq_true (of_decide_eq_true (by first | (with_reducible assumption) | assumption)); replace q20 := eq_true q20) | (go_at_call 37; (with_reducible refine (lightstrconv_lower.calls (bt x0_7 1) t150 _ A21.out).mono ?_); rintro e w' ⟨rfl, ⟨nd, rfl⟩⟩))
                        go_meet
                        case rel => exact ⟨_, (true), (by first | rfl | (simp; done) | (simp [*]; done)), H', ⟨by have := HJ1.out; have := HJ7.out; first | omega | exact Nat.le_refl _⟩, by repeat (first | exact Drawn0.refl _ | apply Drawn0.step)⟩
                      · rw [if_neg c22] at H
                        have c22b0 : (t150 == 111) = false := beq_eq_false_iff_ne.mpr c22
                        have c22b1 : (t150 != 111) = true := bne_iff_ne.mpr c22
                        replace H := Option.bind_eq_some_iff.mp H
                        obtain ⟨t152, A240, H⟩ := H
                        obtain rfl := Option.some.inj (A18.out.symm.trans A240)
                        replace H : (lightstrconv_underscoreOK.j2 kj7 x0_7 94 false (t150 == 120)) = some r := H
                        have A24 := Aside0.mk A240
                        clear A240
                        have H' := Aside0.mk H
                        clear H
                        have p14 : 0 ≤ (0 : Int) := (by omega)
                        have q14 : 0 < x0_7.size := (by have : (0 : Int) < (x0_7.size : Int) := of_decide_eq_true (by first | (with_reducible assumption) | assumption); omega)
                        have hx14 : ∀ h : 0 < x0_7.size, ((x0_7[0]'h).toNat : Int) = bt x0_7 0 := bt_at x0_7 0
                        clear p14
                        have qi14 : (0 < (x0_7.size : Int)) = True := eq_true (of_decide_eq_true (by first | (with_reducible assumption) | assumption))
                        replace q14 := eq_true q14
                        have p17 : 0 ≤ (1 : Int) := (by omega)
                        have q17 : 1 < x0_7.size := (by have : (1 : Int) < (x0_7.size : Int) := of_decide_eq_true (by first | (with_reducible assumption) | assumption); omega)
                        have hx17 : ∀ h : 1 < x0_7.size, ((x0_7[1]'h).toNat : Int) = bt x0_7 1 := bt_at x0_7 1
                        clear p17
                        have qi17 : (1 < (x0_7.size : Int)) = True := eq_true (of_decide_eq_true (by first | (with_reducible assumption) | assumption))
                        replace q17 := eq_true q17
                        go_wp2_with (first | (go_at_call 37; (with_reducible refine (lightstrconv_lower.calls (bt x0_7 1) t150 _ A18.out).mono ?_); rintro e w' ⟨rfl, ⟨nd, rfl⟩⟩; have p20 : 0 ≤ (1 : Int) := (by omega); have q20 : 1 < x0_7.size := (by have : (1 : Int) < (x0_7.size : Int) := of_decide_eq_true (by first | (with_reducible assumption) | assumption); omega); have hx20 : ∀ h : 1 < x0_7.size, ((x0_7[1]'h).toNat : Int) = bt x0_7 1 := bt_at x0_7 1; clear p20; have qi20 : (1 < (x0_7.size : Int)) = True := eq_true (of_decide_eq_true (by first | (with_reducible assumption) | assumption)); replace q20 := eq_true q20) | (go_at_call 37; (with_reducible refine (lightstrconv_lower.calls (bt x0_7 1) t150 _ A21.out).mono ?_); rintro e w' ⟨rfl, ⟨nd, rfl⟩⟩; have p23 : 0 ≤ (1 : Int) := (by omega); have q23 : 1 < x0_7.size := (by have : (1 : Int) < (x0_7.size : Int) := of_decide_eq_true (by first | (with_reducible assumption) | assumption); omega); have hx23 : ∀ h : 1 < x0_7.size, ((x0_7[1]'h).toNat : Int) = bt x0_7 1 := bt_at x0_7 1; clear p23; have qi23 : (1 < (x0_7.size : Int)) = True := eq_true (of_decide_eq_true (by first | (with_reducible assumption) | assumption)); replace q23 := eq_true q23) | (go_at_call 37; (with_reducible refine (lightstrconv_lower.calls (bt x0_7 1) t150 _ A24.out).mono ?_); rintro e w' ⟨rfl, ⟨nd, rfl⟩⟩))
                        go_meet
                        case rel => exact ⟨_, ((t150 == 120)), (by first | rfl | (simp; done) | (simp [*]; done)), H', ⟨by have := HJ1.out; have := HJ7.out; first | omega | exact Nat.le_refl _⟩, by repeat (first | exact Drawn0.refl _ | apply Drawn0.step)⟩
                  · rw [if_neg c16] at H
                    exact absurd H (by simp)
                · rw [if_neg c15] at H
                  have c15b0 : ((bt x0_7 0) == 48) = false := beq_eq_false_iff_ne.mpr c15
                  have c15b1 : ((bt x0_7 0) != 48) = true := bne_iff_ne.mpr c15
                  have H' := Aside0.mk H
                  clear H
                  have p14 : 0 ≤ (0 : Int) := (by omega)
                  have q14 : 0 < x0_7.size := (by have : (0 : Int) < (x0_7.size : Int) := of_decide_eq_true (by first | (with_reducible assumption) | assumption); omega)
                  have hx14 : ∀ h : 0 < x0_7.size, ((x0_7[0]'h).toNat : Int) = bt x0_7 0 := bt_at x0_7 0
                  clear p14
                  have qi14 : (0 < (x0_7.size : Int)) = True := eq_true (of_decide_eq_true (by first | (with_reducible assumption) | assumption))
                  replace q14 := eq_true q14
                  go_wp2
                  go_meet
                  case rel => exact ⟨_, (false), (by first | rfl | (simp; done) | (simp [*]; done)), H', ⟨by have := HJ1.out; have := HJ7.out; first | omega | exact Nat.le_refl _⟩, by repeat (first | exact Drawn0.refl _ | apply Drawn0.step)⟩
              · rw [if_neg c13] at H
                exact absurd H (by simp)
            · rw [if_neg c12] at H
              have c12b0 : decide (2 ≤ (x0_7.size : Int)) = false := decide_eq_false c12
              have c12b1 : decide (2 ≤ x0_7.size) = false := decide_eq_false (by omega)
              clear c12
              (first | rw [c12b0] | (simp only [i64_w, i32_w]; rw [c12b0]) | skip)
              have H' := Aside0.mk H
              clear H
              go_wp2
              go_meet
              case rel => exact ⟨_, (false), (by first | rfl | (simp; done) | (simp [*]; done)), H', ⟨by have := HJ1.out; have := HJ7.out; first | omega | exact Nat.le_refl _⟩, by repeat (first | exact Drawn0.refl _ | apply Drawn0.step)⟩
          case rest =>
            clear HC11
            try clear c1
            try clear p1
            try clear q1
            try clear hx1
            try clear qi1
            try clear c2
            try clear p2
            try clear q2
            try clear hx2
            try clear qi2
            try clear c3
            try clear c3b0
            try clear c3b1
            try clear c4
            try clear c4b0
            try clear c4b1
            try clear p5
            try clear q5
            try clear hx5
            try clear qi5
            try clear c6
            try clear c6b0
            try clear c6b1
            try clear c7
            try clear p7
            try clear q7
            try clear hx7
            try clear qi7
            try clear c9
            try clear c10
            try clear c10b0
            try clear c10b1
            try clear c12
            try clear c12b0
            try clear c12b1
            try clear c13
            try clear c13b0
            try clear c13b1
            try clear p14
            try clear q14
            try clear hx14
            try clear qi14
            try clear c15
            try clear c15b0
            try clear c15b1
            try clear c16
            try clear c16b0
            try clear c16b1
            try clear p17
            try clear q17
            try clear hx17
            try clear qi17
            try clear c19
            try clear c19b0
            try clear c19b1
            try clear p20
            try clear q20
            try clear hx20
            try clear qi20
            try clear c22
            try clear c22b0
            try clear c22b1
            try clear p23
            try clear q23
            try clear hx23
            try clear qi23
            try clear p14
            try clear p17
            try clear p2
            try clear p20
            try clear p23
            try clear p5
            try clear p7
            try clear q14
            try clear q17
            try clear q20
            try clear q23
            try clear q5
            try clear q7
            obtain ⟨kq, x46_10, rfl, HA, HJ10, ⟨mc10, rfl⟩⟩ := hcut
            cases kq with
            | zero => exact absurd HA.out (by simp [lightstrconv_underscoreOK.j2])
            | succ kj10 =>
              have H := HA.out
              clear HA
              simp only [lightstrconv_underscoreOK.j2] at H
              have HC25 := Aside0.mk H
              clear H
              go_upto_if 46 with (fail)
              go_cut [0, 3, 4] (fun v0 v3 v4 wc => ∃ (kq : Nat) (x0_24 : ByteArray) (x3_24 : Int) (x4_24 : Bool), v0 = .string x0_24 ∧ v3 = .int .u8 x3_24 ∧ v4 = .bool x4_24 ∧ Aside0 (lightstrconv_underscoreOK.j3 kq x0_24 x3_24 x4_24 = some r) ∧ Aside0 (kq ≤ kj10) ∧ Drawn0 w wc)
              case first =>
                have H := HC25.out
                clear HC25
                by_cases c26 : x46_10 = true
                · subst c26
                  have H1 : (if 1 < (x0_7.size : Int) then ((lightstrconv_lower.f (bt x0_7 1)).bind fun t153 => (if 2 ≤ (x0_7.size : Int) then (lightstrconv_underscoreOK.j3 kj10 (x0_7.extract 2 x0_7.size) 48 (t153 == 120)) else (none))) else (none)) = some r := by rw [if_pos rfl] at H; exact H
                  clear H
                  have H := H1
                  clear H1
                  by_cases c27 : 1 < (x0_7.size : Int)
                  · rw [if_pos c27] at H
                    have c27b0 : decide (1 < (x0_7.size : Int)) = true := decide_eq_true c27
                    have c27b1 : decide (1 < x0_7.size) = true := decide_eq_true (by omega)
                    clear c27
                    (first | rw [c27b0] | (simp only [i64_w, i32_w]; rw [c27b0]) | skip)
                    replace H := Option.bind_eq_some_iff.mp H
                    obtain ⟨t153, A290, H⟩ := H
                    replace H : (if 2 ≤ (x0_7.size : Int) then (lightstrconv_underscoreOK.j3 kj10 (x0_7.extract 2 x0_7.size) 48 (t153 == 120)) else (none)) = some r := H
                    have A29 := Aside0.mk A290
                    clear A290
                    by_cases c30 : 2 ≤ (x0_7.size : Int)
                    · rw [if_pos c30] at H
                      have c30b0 := eq_true c30
                      have c30b1 : decide (2 ≤ (x0_7.size : Int)) = true := decide_eq_true c30
                      clear c30
                      have H' := Aside0.mk H
                      clear H
                      have p28 : 0 ≤ (1 : Int) := (by omega)
                      have q28 : 1 < x0_7.size := (by have : (1 : Int) < (x0_7.size : Int) := of_decide_eq_true (by first | (with_reducible assumption) | assumption); omega)
                      have hx28 : ∀ h : 1 < x0_7.size, ((x0_7[1]'h).toNat : Int) = bt x0_7 1 := bt_at x0_7 1
                      clear p28
                      have qi28 : (1 < (x0_7.size : Int)) = True := eq_true (of_decide_eq_true (by first | (with_reducible assumption) | assumption))
                      replace q28 := eq_true q28
                      go_wp2_with (first | ((with_reducible refine gate_callee (f := 37) rfl ?_); refine goesL_ (some 49) rfl rfl Tryd.func37 (by kernel_rfl) rfl #[.int .u8 (bt x0_7 1)] rfl (by (try simp only [List.map_toArray, List.map_cons, List.map_nil]); first | done | rfl | (simp only [List.length_drop, List.length_take]; rfl)) ?_; (with_reducible refine (lightstrconv_lower.calls (bt x0_7 1) t153 _ A29.out).mono ?_); rintro e w' ⟨rfl, ⟨nd, rfl⟩⟩; refine ⟨_, rfl, ?_⟩))
                      go_meet
                      case rel => exact ⟨_, (x0_7.extract 2 x0_7.size), (48), ((t153 == 120)), (by first | rfl | (simp; done) | (simp [*]; done)), (by first | rfl | (simp; done) | (simp [*]; done)), (by first | rfl | (simp; done) | (simp [*]; done)), H', ⟨by have := HJ1.out; have := HJ7.out; have := HJ10.out; first | omega | exact Nat.le_refl _⟩, by repeat (first | exact Drawn0.refl _ | apply Drawn0.step)⟩
                    · rw [if_neg c30] at H
                      exact absurd H (by simp)
                  · rw [if_neg c27] at H
                    exact absurd H (by simp)
                · replace c26 := Bool.eq_false_iff.mpr c26
                  subst c26
                  have H1 : (lightstrconv_underscoreOK.j3 kj10 x0_7 94 false) = some r := by rw [if_neg (show ¬ (false = true) by decide)] at H; exact H
                  clear H
                  have H := H1
                  clear H1
                  have H' := Aside0.mk H
                  clear H
                  go_wp2
                  go_meet
                  case rel => exact ⟨_, (x0_7), (94), (false), (by first | rfl | (simp; done) | (simp [*]; done)), (by first | rfl | (simp; done) | (simp [*]; done)), (by first | rfl | (simp; done) | (simp [*]; done)), H', ⟨by have := HJ1.out; have := HJ7.out; have := HJ10.out; first | omega | exact Nat.le_refl _⟩, by repeat (first | exact Drawn0.refl _ | apply Drawn0.step)⟩
              case rest =>
                clear HC25
                try clear c1
                try clear p1
                try clear q1
                try clear hx1
                try clear qi1
                try clear c2
                try clear p2
                try clear q2
                try clear hx2
                try clear qi2
                try clear c3
                try clear c3b0
                try clear c3b1
                try clear c4
                try clear c4b0
                try clear c4b1
                try clear p5
                try clear q5
                try clear hx5
                try clear qi5
                try clear c6
                try clear c6b0
                try clear c6b1
                try clear c7
                try clear p7
                try clear q7
                try clear hx7
                try clear qi7
                try clear c9
                try clear c10
                try clear c10b0
                try clear c10b1
                try clear c12
                try clear c12b0
                try clear c12b1
                try clear c13
                try clear c13b0
                try clear c13b1
                try clear p14
                try clear q14
                try clear hx14
                try clear qi14
                try clear c15
                try clear c15b0
                try clear c15b1
                try clear c16
                try clear c16b0
                try clear c16b1
                try clear p17
                try clear q17
                try clear hx17
                try clear qi17
                try clear c19
                try clear c19b0
                try clear c19b1
                try clear p20
                try clear q20
                try clear hx20
                try clear qi20
                try clear c22
                try clear c22b0
                try clear c22b1
                try clear p23
                try clear q23
                try clear hx23
                try clear qi23
                try clear c26
                try clear c27
                try clear c27b0
                try clear c27b1
                try clear p28
                try clear q28
                try clear hx28
                try clear qi28
                try clear c30
                try clear c30b0
                try clear c30b1
                try clear p1
                try clear p14
                try clear p17
                try clear p2
                try clear p20
                try clear p23
                try clear p28
                try clear p5
                try clear p7
                try clear q1
                try clear q14
                try clear q17
                try clear q2
                try clear q20
                try clear q23
                try clear q28
                try clear q5
                try clear q7
                obtain ⟨kq, x0_24, x3_24, x4_24, rfl, rfl, rfl, HA, HJ24, ⟨mc24, rfl⟩⟩ := hcut
                cases kq with
                | zero => exact absurd HA.out (by simp [lightstrconv_underscoreOK.j3])
                | succ kj24 =>
                  have H := HA.out
                  clear HA
                  simp only [lightstrconv_underscoreOK.j3] at H
                  have H' := Aside0.mk H
                  clear H
                  go_wp2
                  go_loopg [3, 5] kj24 (fun kq v3 v5 w' => ∃ (x3_5 : Int) (x5_5 : Int), v3 = .int .u8 x3_5 ∧ v5 = .int .i64 x5_5 ∧ Aside0 (lightstrconv_underscoreOK.l0 kq x0_24 x3_5 x4_24 x5_5 = some r) ∧ Aside0 (kq ≤ kj24) ∧ Drawn0 w w')
                  case atStart => exact ⟨(x3_24), (0), (by first | rfl | (simp; done) | (simp [*]; done)), (by first | rfl | (simp; done) | (simp [*]; done)), H', ⟨Nat.le_refl _⟩, by repeat (first | exact Drawn0.refl _ | apply Drawn0.step)⟩
                  case round =>
                    clear H'
                    try clear c1
                    try clear p1
                    try clear q1
                    try clear hx1
                    try clear qi1
                    try clear c2
                    try clear p2
                    try clear q2
                    try clear hx2
                    try clear qi2
                    try clear c3
                    try clear c3b0
                    try clear c3b1
                    try clear c4
                    try clear c4b0
                    try clear c4b1
                    try clear p5
                    try clear q5
                    try clear hx5
                    try clear qi5
                    try clear c6
                    try clear c6b0
                    try clear c6b1
                    try clear c7
                    try clear p7
                    try clear q7
                    try clear hx7
                    try clear qi7
                    try clear c9
                    try clear c10
                    try clear c10b0
                    try clear c10b1
                    try clear c12
                    try clear c12b0
                    try clear c12b1
                    try clear c13
                    try clear c13b0
                    try clear c13b1
                    try clear p14
                    try clear q14
                    try clear hx14
                    try clear qi14
                    try clear c15
                    try clear c15b0
                    try clear c15b1
                    try clear c16
                    try clear c16b0
                    try clear c16b1
                    try clear p17
                    try clear q17
                    try clear hx17
                    try clear qi17
                    try clear c19
                    try clear c19b0
                    try clear c19b1
                    try clear p20
                    try clear q20
                    try clear hx20
                    try clear qi20
                    try clear c22
                    try clear c22b0
                    try clear c22b1
                    try clear p23
                    try clear q23
                    try clear hx23
                    try clear qi23
                    try clear c24
                    try clear c26
                    try clear c27
                    try clear c27b0
                    try clear c27b1
                    try clear p28
                    try clear q28
                    try clear hx28
                    try clear qi28
                    try clear c30
                    try clear c30b0
                    try clear c30b1
                    try clear p1
                    try clear p14
                    try clear p17
                    try clear p2
                    try clear p20
                    try clear p23
                    try clear p28
                    try clear p5
                    try clear p7
                    try clear q1
                    try clear q14
                    try clear q17
                    try clear q2
                    try clear q20
                    try clear q23
                    try clear q28
                    try clear q5
                    try clear q7
                    obtain ⟨x3_5, x5_5, rfl, rfl, HA, HK5, ⟨m5, rfl⟩⟩ := hrel
                    cases gk with
                    | zero => exact absurd HA.out (by simp [lightstrconv_underscoreOK.l0])
                    | succ k5 =>
                      have H := HA.out
                      clear HA
                      simp only [lightstrconv_underscoreOK.l0] at H
                      by_cases c31 : x5_5 < (x0_24.size : Int)
                      · rw [if_pos c31] at H
                        have c31b0 : decide (x5_5 < (x0_24.size : Int)) = true := decide_eq_true c31
                        clear c31
                        by_cases c32 : 0 ≤ x5_5
                        · rw [if_pos c32] at H
                          have c32b0 : decide (0 ≤ x5_5) = true := decide_eq_true c32
                          clear c32
                          have HC34 := Aside0.mk H
                          clear H
                          have p33 : 0 ≤ (x5_5 : Int) := of_decide_eq_true (by first | (with_reducible assumption) | assumption)
                          have q33 : x5_5 < (x0_24.size : Int) := of_decide_eq_true (by first | (with_reducible assumption) | assumption)
                          have hx33 := bt_at x0_24 x5_5
                          replace p33 := eq_true p33
                          replace q33 := eq_true q33
                          go_upto_region 12 with (fail)
                          go_cut [62] (fun v62 wc => ∃ (kq : Nat) (x62_33 : Bool), v62 = .bool x62_33 ∧ Aside0 (lightstrconv_underscoreOK.j5 kq x0_24 x3_5 x4_24 x5_5 (bt x0_24 x5_5) x62_33 = some r) ∧ Aside0 (kq ≤ k5) ∧ Drawn0 w wc)
                          case first =>
                            have H := HC34.out
                            clear HC34
                            by_cases c35 : 48 ≤ (bt x0_24 x5_5)
                            · rw [if_pos c35] at H
                              have c35b0 : decide (48 ≤ (bt x0_24 x5_5)) = true := decide_eq_true c35
                              clear c35
                              (first | rw [c35b0] | (simp only [i64_w, i32_w]; rw [c35b0]) | skip)
                              by_cases c36 : (bt x0_24 x5_5) ≤ 57
                              · rw [if_pos c36] at H
                                have c36b0 : decide ((bt x0_24 x5_5) ≤ 57) = true := decide_eq_true c36
                                clear c36
                                have H' := Aside0.mk H
                                clear H
                                go_wp2
                                go_meet
                                case rel => exact ⟨_, (true), (by first | rfl | (simp; done) | (simp [*]; done)), H', ⟨by have := HJ1.out; have := HJ7.out; have := HJ10.out; have := HJ24.out; have := HK5.out; first | omega | exact Nat.le_refl _⟩, by repeat (first | exact Drawn0.refl _ | apply Drawn0.step)⟩
                              · rw [if_neg c36] at H
                                have c36b0 : decide ((bt x0_24 x5_5) ≤ 57) = false := decide_eq_false c36
                                clear c36
                                by_cases c37 : x4_24 = true
                                · subst c37
                                  have H1 : ((lightstrconv_lower.f (bt x0_24 x5_5)).bind fun t154 => (if 97 ≤ t154 then ((lightstrconv_lower.f (bt x0_24 x5_5)).bind fun t155 => (lightstrconv_underscoreOK.j5 k5 x0_24 x3_5 true x5_5 (bt x0_24 x5_5) (decide (t155 ≤ 102)))) else (lightstrconv_underscoreOK.j5 k5 x0_24 x3_5 true x5_5 (bt x0_24 x5_5) false))) = some r := by rw [if_pos rfl] at H; exact H
                                  clear H
                                  have H := H1
                                  clear H1
                                  replace H := Option.bind_eq_some_iff.mp H
                                  obtain ⟨t154, A380, H⟩ := H
                                  replace H : (if 97 ≤ t154 then ((lightstrconv_lower.f (bt x0_24 x5_5)).bind fun t155 => (lightstrconv_underscoreOK.j5 k5 x0_24 x3_5 true x5_5 (bt x0_24 x5_5) (decide (t155 ≤ 102)))) else (lightstrconv_underscoreOK.j5 k5 x0_24 x3_5 true x5_5 (bt x0_24 x5_5) false)) = some r := H
                                  have A38 := Aside0.mk A380
                                  clear A380
                                  by_cases c39 : 97 ≤ t154
                                  · rw [if_pos c39] at H
                                    have c39b0 : decide (97 ≤ t154) = true := decide_eq_true c39
                                    clear c39
                                    replace H := Option.bind_eq_some_iff.mp H
                                    obtain ⟨t155, A400, H⟩ := H
                                    obtain rfl := Option.some.inj (A38.out.symm.trans A400)
                                    replace H : (lightstrconv_underscoreOK.j5 k5 x0_24 x3_5 true x5_5 (bt x0_24 x5_5) (decide (t154 ≤ 102))) = some r := H
                                    have A40 := Aside0.mk A400
                                    clear A400
                                    have H' := Aside0.mk H
                                    clear H
                                    go_wp2_with (first | (go_at_call 37; (with_reducible refine (lightstrconv_lower.calls (bt x0_24 x5_5) t154 _ A38.out).mono ?_); rintro e w' ⟨rfl, ⟨nd, rfl⟩⟩) | (go_at_call 37; (with_reducible refine (lightstrconv_lower.calls (bt x0_24 x5_5) t154 _ A40.out).mono ?_); rintro e w' ⟨rfl, ⟨nd, rfl⟩⟩))
                                    go_meet
                                    case rel => exact ⟨_, (decide (t154 ≤ 102)), (by first | rfl | (simp; done) | (simp [*]; done)), H', ⟨by have := HJ1.out; have := HJ7.out; have := HJ10.out; have := HJ24.out; have := HK5.out; first | omega | exact Nat.le_refl _⟩, by repeat (first | exact Drawn0.refl _ | apply Drawn0.step)⟩
                                  · rw [if_neg c39] at H
                                    have c39b0 : decide (97 ≤ t154) = false := decide_eq_false c39
                                    clear c39
                                    have H' := Aside0.mk H
                                    clear H
                                    go_wp2_with (first | (go_at_call 37; (with_reducible refine (lightstrconv_lower.calls (bt x0_24 x5_5) t154 _ A38.out).mono ?_); rintro e w' ⟨rfl, ⟨nd, rfl⟩⟩))
                                    go_meet
                                    case rel => exact ⟨_, (false), (by first | rfl | (simp; done) | (simp [*]; done)), H', ⟨by have := HJ1.out; have := HJ7.out; have := HJ10.out; have := HJ24.out; have := HK5.out; first | omega | exact Nat.le_refl _⟩, by repeat (first | exact Drawn0.refl _ | apply Drawn0.step)⟩
                                · replace c37 := Bool.eq_false_iff.mpr c37
                                  subst c37
                                  have H1 : (lightstrconv_underscoreOK.j5 k5 x0_24 x3_5 false x5_5 (bt x0_24 x5_5) false) = some r := by rw [if_neg (show ¬ (false = true) by decide)] at H; exact H
                                  clear H
                                  have H := H1
                                  clear H1
                                  have H' := Aside0.mk H
                                  clear H
                                  go_wp2
                                  go_meet
                                  case rel => exact ⟨_, (false), (by first | rfl | (simp; done) | (simp [*]; done)), H', ⟨by have := HJ1.out; have := HJ7.out; have := HJ10.out; have := HJ24.out; have := HK5.out; first | omega | exact Nat.le_refl _⟩, by repeat (first | exact Drawn0.refl _ | apply Drawn0.step)⟩
                            · rw [if_neg c35] at H
                              have c35b0 : decide (48 ≤ (bt x0_24 x5_5)) = false := decide_eq_false c35
                              clear c35
                              (first | rw [c35b0] | (simp only [i64_w, i32_w]; rw [c35b0]) | skip)
                              by_cases c41 : x4_24 = true
                              · subst c41
                                have H1 : ((lightstrconv_lower.f (bt x0_24 x5_5)).bind fun t156 => (if 97 ≤ t156 then ((lightstrconv_lower.f (bt x0_24 x5_5)).bind fun t157 => (lightstrconv_underscoreOK.j5 k5 x0_24 x3_5 true x5_5 (bt x0_24 x5_5) (decide (t157 ≤ 102)))) else (lightstrconv_underscoreOK.j5 k5 x0_24 x3_5 true x5_5 (bt x0_24 x5_5) false))) = some r := by rw [if_pos rfl] at H; exact H
                                clear H
                                have H := H1
                                clear H1
                                replace H := Option.bind_eq_some_iff.mp H
                                obtain ⟨t156, A420, H⟩ := H
                                replace H : (if 97 ≤ t156 then ((lightstrconv_lower.f (bt x0_24 x5_5)).bind fun t157 => (lightstrconv_underscoreOK.j5 k5 x0_24 x3_5 true x5_5 (bt x0_24 x5_5) (decide (t157 ≤ 102)))) else (lightstrconv_underscoreOK.j5 k5 x0_24 x3_5 true x5_5 (bt x0_24 x5_5) false)) = some r := H
                                have A42 := Aside0.mk A420
                                clear A420
                                by_cases c43 : 97 ≤ t156
                                · rw [if_pos c43] at H
                                  have c43b0 : decide (97 ≤ t156) = true := decide_eq_true c43
                                  clear c43
                                  replace H := Option.bind_eq_some_iff.mp H
                                  obtain ⟨t157, A440, H⟩ := H
                                  obtain rfl := Option.some.inj (A42.out.symm.trans A440)
                                  replace H : (lightstrconv_underscoreOK.j5 k5 x0_24 x3_5 true x5_5 (bt x0_24 x5_5) (decide (t156 ≤ 102))) = some r := H
                                  have A44 := Aside0.mk A440
                                  clear A440
                                  have H' := Aside0.mk H
                                  clear H
                                  go_wp2_with (first | (go_at_call 37; (with_reducible refine (lightstrconv_lower.calls (bt x0_24 x5_5) t156 _ A42.out).mono ?_); rintro e w' ⟨rfl, ⟨nd, rfl⟩⟩) | (go_at_call 37; (with_reducible refine (lightstrconv_lower.calls (bt x0_24 x5_5) t156 _ A44.out).mono ?_); rintro e w' ⟨rfl, ⟨nd, rfl⟩⟩))
                                  go_meet
                                  case rel => exact ⟨_, (decide (t156 ≤ 102)), (by first | rfl | (simp; done) | (simp [*]; done)), H', ⟨by have := HJ1.out; have := HJ7.out; have := HJ10.out; have := HJ24.out; have := HK5.out; first | omega | exact Nat.le_refl _⟩, by repeat (first | exact Drawn0.refl _ | apply Drawn0.step)⟩
                                · rw [if_neg c43] at H
                                  have c43b0 : decide (97 ≤ t156) = false := decide_eq_false c43
                                  clear c43
                                  have H' := Aside0.mk H
                                  clear H
                                  go_wp2_with (first | (go_at_call 37; (with_reducible refine (lightstrconv_lower.calls (bt x0_24 x5_5) t156 _ A42.out).mono ?_); rintro e w' ⟨rfl, ⟨nd, rfl⟩⟩))
                                  go_meet
                                  case rel => exact ⟨_, (false), (by first | rfl | (simp; done) | (simp [*]; done)), H', ⟨by have := HJ1.out; have := HJ7.out; have := HJ10.out; have := HJ24.out; have := HK5.out; first | omega | exact Nat.le_refl _⟩, by repeat (first | exact Drawn0.refl _ | apply Drawn0.step)⟩
                              · replace c41 := Bool.eq_false_iff.mpr c41
                                subst c41
                                have H1 : (lightstrconv_underscoreOK.j5 k5 x0_24 x3_5 false x5_5 (bt x0_24 x5_5) false) = some r := by rw [if_neg (show ¬ (false = true) by decide)] at H; exact H
                                clear H
                                have H := H1
                                clear H1
                                have H' := Aside0.mk H
                                clear H
                                go_wp2
                                go_meet
                                case rel => exact ⟨_, (false), (by first | rfl | (simp; done) | (simp [*]; done)), H', ⟨by have := HJ1.out; have := HJ7.out; have := HJ10.out; have := HJ24.out; have := HK5.out; first | omega | exact Nat.le_refl _⟩, by repeat (first | exact Drawn0.refl _ | apply Drawn0.step)⟩
                          case rest =>
                            clear HC34
                            try clear c1
                            try clear p1
                            try clear q1
                            try clear hx1
                            try clear qi1
                            try clear c2
                            try clear p2
                            try clear q2
                            try clear hx2
                            try clear qi2
                            try clear c3
                            try clear c3b0
                            try clear c3b1
                            try clear p3
                            try clear q3
                            try clear hx3
                            try clear c4
                            try clear c4b0
                            try clear c4b1
                            try clear p5
                            try clear q5
                            try clear hx5
                            try clear qi5
                            try clear c6
                            try clear c6b0
                            try clear c6b1
                            try clear c7
                            try clear p7
                            try clear q7
                            try clear hx7
                            try clear qi7
                            try clear c9
                            try clear c10
                            try clear c10b0
                            try clear c10b1
                            try clear c12
                            try clear c12b0
                            try clear c12b1
                            try clear c13
                            try clear c13b0
                            try clear c13b1
                            try clear p14
                            try clear q14
                            try clear hx14
                            try clear qi14
                            try clear c15
                            try clear c15b0
                            try clear c15b1
                            try clear c16
                            try clear c16b0
                            try clear c16b1
                            try clear p17
                            try clear q17
                            try clear hx17
                            try clear qi17
                            try clear c19
                            try clear c19b0
                            try clear c19b1
                            try clear p20
                            try clear q20
                            try clear hx20
                            try clear qi20
                            try clear c22
                            try clear c22b0
                            try clear c22b1
                            try clear p23
                            try clear q23
                            try clear hx23
                            try clear qi23
                            try clear c24
                            try clear c26
                            try clear c27
                            try clear c27b0
                            try clear c27b1
                            try clear p28
                            try clear q28
                            try clear hx28
                            try clear qi28
                            try clear c30
                            try clear c30b0
                            try clear c30b1
                            try clear c31
                            try clear c31b0
                            try clear c32
                            try clear c32b0
                            try clear p33
                            try clear q33
                            try clear hx33
                            try clear c35
                            try clear c35b0
                            try clear c36
                            try clear c36b0
                            try clear c37
                            try clear c39
                            try clear c39b0
                            try clear c41
                            try clear c43
                            try clear c43b0
                            try clear p1
                            try clear p14
                            try clear p17
                            try clear p2
                            try clear p20
                            try clear p23
                            try clear p28
                            try clear p33
                            try clear p5
                            try clear p7
                            try clear q1
                            try clear q14
                            try clear q17
                            try clear q2
                            try clear q20
                            try clear q23
                            try clear q28
                            try clear q33
                            try clear q5
                            try clear q7
                            obtain ⟨kq, x62_33, rfl, HA, HJ33, ⟨mc33, rfl⟩⟩ := hcut
                            cases kq with
                            | zero => exact absurd HA.out (by simp [lightstrconv_underscoreOK.j5])
                            | succ kj33 =>
                              have H := HA.out
                              clear HA
                              simp only [lightstrconv_underscoreOK.j5] at H
                              by_cases c45 : x62_33 = true
                              · subst c45
                                have H1 : (lightstrconv_underscoreOK.l0 kj33 x0_24 48 x4_24 (wrap64 (x5_5 + 1))) = some r := by rw [if_pos rfl] at H; exact H
                                clear H
                                have H := H1
                                clear H1
                                have H' := Aside0.mk H
                                clear H
                                go_wp2
                                go_roundg kj33
                                case measure => have := HJ1.out; have := HJ7.out; have := HJ10.out; have := HJ24.out; have := HK5.out; have := HJ33.out; omega
                                case rel => exact ⟨(48), (wrap64 (x5_5 + 1)), (by first | rfl | (simp; done) | (simp [*]; done)), (by first | rfl | (simp; done) | (simp [*]; done)), H', ⟨by have := HJ1.out; have := HJ7.out; have := HJ10.out; have := HJ24.out; have := HK5.out; have := HJ33.out; omega⟩, by repeat (first | exact Drawn0.refl _ | apply Drawn0.step)⟩
                              · replace c45 := Bool.eq_false_iff.mpr c45
                                subst c45
                                have H1 : (if (bt x0_24 x5_5) = 95 then (lightstrconv_underscoreOK.j6 kj33 x0_24 x3_5 x4_24 x5_5 (bt x0_24 x5_5) (x3_5 != 48)) else (lightstrconv_underscoreOK.j6 kj33 x0_24 x3_5 x4_24 x5_5 (bt x0_24 x5_5) false)) = some r := by rw [if_neg (show ¬ (false = true) by decide)] at H; exact H
                                clear H
                                have H := H1
                                clear H1
                                have HC46 := Aside0.mk H
                                clear H
                                go_upto_region 14 with (fail)
                                go_cut [82] (fun v82 wc => ∃ (kq : Nat) (x82_45 : Bool), v82 = .bool x82_45 ∧ Aside0 (lightstrconv_underscoreOK.j6 kq x0_24 x3_5 x4_24 x5_5 (bt x0_24 x5_5) x82_45 = some r) ∧ Aside0 (kq ≤ kj33) ∧ Drawn0 w wc)
                                case first =>
                                  have H := HC46.out
                                  clear HC46
                                  by_cases c47 : (bt x0_24 x5_5) = 95
                                  · rw [if_pos c47] at H
                                    have c47b0 : ((bt x0_24 x5_5) == 95) = true := beq_iff_eq.mpr c47
                                    have c47b1 : ((bt x0_24 x5_5) != 95) = false := bne_eq_false_iff_eq.mpr c47
                                    clear c47
                                    (first | rw [c47b0] | (simp only [i64_w, i32_w]; rw [c47b0]) | skip)
                                    have H' := Aside0.mk H
                                    clear H
                                    go_wp2
                                    go_meet
                                    case rel => exact ⟨_, ((x3_5 != 48)), (by first | rfl | (simp; done) | (simp [*]; done)), H', ⟨by have := HJ1.out; have := HJ7.out; have := HJ10.out; have := HJ24.out; have := HK5.out; have := HJ33.out; first | omega | exact Nat.le_refl _⟩, by repeat (first | exact Drawn0.refl _ | apply Drawn0.step)⟩
                                  · rw [if_neg c47] at H
                                    have c47b0 : ((bt x0_24 x5_5) == 95) = false := beq_eq_false_iff_ne.mpr c47
                                    have c47b1 : ((bt x0_24 x5_5) != 95) = true := bne_iff_ne.mpr c47
                                    (first | rw [c47b0] | (simp only [i64_w, i32_w]; rw [c47b0]) | skip)
                                    have H' := Aside0.mk H
                                    clear H
                                    go_wp2
                                    go_meet
                                    case rel => exact ⟨_, (false), (by first | rfl | (simp; done) | (simp [*]; done)), H', ⟨by have := HJ1.out; have := HJ7.out; have := HJ10.out; have := HJ24.out; have := HK5.out; have := HJ33.out; first | omega | exact Nat.le_refl _⟩, by repeat (first | exact Drawn0.refl _ | apply Drawn0.step)⟩
                                case rest =>
                                  clear HC46
                                  try clear c1
                                  try clear p1
                                  try clear q1
                                  try clear hx1
                                  try clear qi1
                                  try clear c2
                                  try clear p2
                                  try clear q2
                                  try clear hx2
                                  try clear qi2
                                  try clear c3
                                  try clear c3b0
                                  try clear c3b1
                                  try clear p3
                                  try clear q3
                                  try clear hx3
                                  try clear c4
                                  try clear c4b0
                                  try clear c4b1
                                  try clear p5
                                  try clear q5
                                  try clear hx5
                                  try clear qi5
                                  try clear c6
                                  try clear c6b0
                                  try clear c6b1
                                  try clear p6
                                  try clear c7
                                  try clear p7
                                  try clear q7
                                  try clear hx7
                                  try clear qi7
                                  try clear c9
                                  try clear c10
                                  try clear c10b0
                                  try clear c10b1
                                  try clear c12
                                  try clear c12b0
                                  try clear c12b1
                                  try clear c13
                                  try clear c13b0
                                  try clear c13b1
                                  try clear p14
                                  try clear q14
                                  try clear hx14
                                  try clear qi14
                                  try clear c15
                                  try clear c15b0
                                  try clear c15b1
                                  try clear c16
                                  try clear c16b0
                                  try clear c16b1
                                  try clear p17
                                  try clear q17
                                  try clear hx17
                                  try clear qi17
                                  try clear c19
                                  try clear c19b0
                                  try clear c19b1
                                  try clear p20
                                  try clear q20
                                  try clear hx20
                                  try clear qi20
                                  try clear c22
                                  try clear c22b0
                                  try clear c22b1
                                  try clear p23
                                  try clear q23
                                  try clear hx23
                                  try clear qi23
                                  try clear c24
                                  try clear c26
                                  try clear c27
                                  try clear c27b0
                                  try clear c27b1
                                  try clear p28
                                  try clear q28
                                  try clear hx28
                                  try clear qi28
                                  try clear c30
                                  try clear c30b0
                                  try clear c30b1
                                  try clear c31
                                  try clear c31b0
                                  try clear c32
                                  try clear c32b0
                                  try clear c33
                                  try clear p33
                                  try clear q33
                                  try clear hx33
                                  try clear c35
                                  try clear c35b0
                                  try clear c36
                                  try clear c36b0
                                  try clear c37
                                  try clear c39
                                  try clear c39b0
                                  try clear c41
                                  try clear c43
                                  try clear c43b0
                                  try clear c45
                                  try clear c47
                                  try clear c47b0
                                  try clear c47b1
                                  try clear p1
                                  try clear p14
                                  try clear p17
                                  try clear p2
                                  try clear p20
                                  try clear p23
                                  try clear p28
                                  try clear p3
                                  try clear p33
                                  try clear p5
                                  try clear p7
                                  try clear q1
                                  try clear q14
                                  try clear q17
                                  try clear q2
                                  try clear q20
                                  try clear q23
                                  try clear q28
                                  try clear q3
                                  try clear q33
                                  try clear q5
                                  try clear q7
                                  obtain ⟨kq, x82_45, rfl, HA, HJ45, ⟨mc45, rfl⟩⟩ := hcut
                                  cases kq with
                                  | zero => exact absurd HA.out (by simp [lightstrconv_underscoreOK.j6])
                                  | succ kj45 =>
                                    have H := HA.out
                                    clear HA
                                    simp only [lightstrconv_underscoreOK.j6] at H
                                    have HC48 := Aside0.mk H
                                    clear H
                                    go_upto_if 82 with (fail)
                                    go_cut [82] (fun v82 wc => ∃ (kq : Nat) (x82_47 : Bool), v82 = .bool x82_47 ∧ Aside0 (lightstrconv_underscoreOK.j7 kq x0_24 x4_24 x5_5 (bt x0_24 x5_5) x82_47 = some r) ∧ Aside0 (kq ≤ kj45) ∧ Drawn0 w wc)
                                    case first =>
                                      have H := HC48.out
                                      clear HC48
                                      by_cases c49 : x82_45 = true
                                      · subst c49
                                        have H1 : (lightstrconv_underscoreOK.j7 kj45 x0_24 x4_24 x5_5 (bt x0_24 x5_5) true) = some r := by rw [if_pos rfl] at H; exact H
                                        clear H
                                        have H := H1
                                        clear H1
                                        have H' := Aside0.mk H
                                        clear H
                                        go_wp2
                                        go_meet
                                        case rel => exact ⟨_, (true), (by first | rfl | (simp; done) | (simp [*]; done)), H', ⟨by have := HJ1.out; have := HJ7.out; have := HJ10.out; have := HJ24.out; have := HK5.out; have := HJ33.out; have := HJ45.out; first | omega | exact Nat.le_refl _⟩, by repeat (first | exact Drawn0.refl _ | apply Drawn0.step)⟩
                                      · replace c49 := Bool.eq_false_iff.mpr c49
                                        subst c49
                                        have H1 : (if (bt x0_24 x5_5) = 95 then (lightstrconv_underscoreOK.j7 kj45 x0_24 x4_24 x5_5 (bt x0_24 x5_5) false) else (lightstrconv_underscoreOK.j7 kj45 x0_24 x4_24 x5_5 (bt x0_24 x5_5) (x3_5 == 95))) = some r := by rw [if_neg (show ¬ (false = true) by decide)] at H; exact H
                                        clear H
                                        have H := H1
                                        clear H1
                                        by_cases c50 : (bt x0_24 x5_5) = 95
                                        · rw [if_pos c50] at H
                                          have c50b0 : ((bt x0_24 x5_5) == 95) = true := beq_iff_eq.mpr c50
                                          have c50b1 : ((bt x0_24 x5_5) != 95) = false := bne_eq_false_iff_eq.mpr c50
                                          clear c50
                                          (first | rw [c50b0] | (simp only [i64_w, i32_w]; rw [c50b0]) | skip)
                                          have H' := Aside0.mk H
                                          clear H
                                          go_wp2
                                          go_meet
                                          case rel => exact ⟨_, (false), (by first | rfl | (simp; done) | (simp [*]; done)), H', ⟨by have := HJ1.out; have := HJ7.out; have := HJ10.out; have := HJ24.out; have := HK5.out; have := HJ33.out; have := HJ45.out; first | omega | exact Nat.le_refl _⟩, by repeat (first | exact Drawn0.refl _ | apply Drawn0.step)⟩
                                        · rw [if_neg c50] at H
                                          have c50b0 : ((bt x0_24 x5_5) == 95) = false := beq_eq_false_iff_ne.mpr c50
                                          have c50b1 : ((bt x0_24 x5_5) != 95) = true := bne_iff_ne.mpr c50
                                          (first | rw [c50b0] | (simp only [i64_w, i32_w]; rw [c50b0]) | skip)
                                          have H' := Aside0.mk H
                                          clear H
                                          go_wp2
                                          go_meet
                                          case rel => exact ⟨_, ((x3_5 == 95)), (by first | rfl | (simp; done) | (simp [*]; done)), H', ⟨by have := HJ1.out; have := HJ7.out; have := HJ10.out; have := HJ24.out; have := HK5.out; have := HJ33.out; have := HJ45.out; first | omega | exact Nat.le_refl _⟩, by repeat (first | exact Drawn0.refl _ | apply Drawn0.step)⟩
                                    case rest =>
                                      clear HC48
                                      try clear c1
                                      try clear p1
                                      try clear q1
                                      try clear hx1
                                      try clear qi1
                                      try clear c2
                                      try clear p2
                                      try clear q2
                                      try clear hx2
                                      try clear qi2
                                      try clear c3
                                      try clear c3b0
                                      try clear c3b1
                                      try clear p3
                                      try clear q3
                                      try clear hx3
                                      try clear c4
                                      try clear c4b0
                                      try clear c4b1
                                      try clear c5
                                      try clear p5
                                      try clear q5
                                      try clear hx5
                                      try clear qi5
                                      try clear c6
                                      try clear c6b0
                                      try clear c6b1
                                      try clear p6
                                      try clear c7
                                      try clear p7
                                      try clear q7
                                      try clear hx7
                                      try clear qi7
                                      try clear c9
                                      try clear c10
                                      try clear c10b0
                                      try clear c10b1
                                      try clear c12
                                      try clear c12b0
                                      try clear c12b1
                                      try clear c13
                                      try clear c13b0
                                      try clear c13b1
                                      try clear p14
                                      try clear q14
                                      try clear hx14
                                      try clear qi14
                                      try clear c15
                                      try clear c15b0
                                      try clear c15b1
                                      try clear c16
                                      try clear c16b0
                                      try clear c16b1
                                      try clear p17
                                      try clear q17
                                      try clear hx17
                                      try clear qi17
                                      try clear c19
                                      try clear c19b0
                                      try clear c19b1
                                      try clear p20
                                      try clear q20
                                      try clear hx20
                                      try clear qi20
                                      try clear c22
                                      try clear c22b0
                                      try clear c22b1
                                      try clear p23
                                      try clear q23
                                      try clear hx23
                                      try clear qi23
                                      try clear c24
                                      try clear c26
                                      try clear c27
                                      try clear c27b0
                                      try clear c27b1
                                      try clear p28
                                      try clear q28
                                      try clear hx28
                                      try clear qi28
                                      try clear c30
                                      try clear c30b0
                                      try clear c30b1
                                      try clear c31
                                      try clear c31b0
                                      try clear c32
                                      try clear c32b0
                                      try clear c33
                                      try clear p33
                                      try clear q33
                                      try clear hx33
                                      try clear c35
                                      try clear c35b0
                                      try clear c36
                                      try clear c36b0
                                      try clear c37
                                      try clear c39
                                      try clear c39b0
                                      try clear c41
                                      try clear c43
                                      try clear c43b0
                                      try clear c45
                                      try clear c47
                                      try clear c47b0
                                      try clear c47b1
                                      try clear c49
                                      try clear c50
                                      try clear c50b0
                                      try clear c50b1
                                      try clear p1
                                      try clear p14
                                      try clear p17
                                      try clear p2
                                      try clear p20
                                      try clear p23
                                      try clear p28
                                      try clear p3
                                      try clear p33
                                      try clear p5
                                      try clear p6
                                      try clear p7
                                      try clear q1
                                      try clear q14
                                      try clear q17
                                      try clear q2
                                      try clear q20
                                      try clear q23
                                      try clear q28
                                      try clear q3
                                      try clear q33
                                      try clear q5
                                      try clear q7
                                      obtain ⟨kq, x82_47, rfl, HA, HJ47, ⟨mc47, rfl⟩⟩ := hcut
                                      cases kq with
                                      | zero => exact absurd HA.out (by simp [lightstrconv_underscoreOK.j7])
                                      | succ kj47 =>
                                        have H := HA.out
                                        clear HA
                                        simp only [lightstrconv_underscoreOK.j7] at H
                                        by_cases c51 : x82_47 = true
                                        · subst c51
                                          have H1 : (some false) = some r := by rw [if_pos rfl] at H; exact H
                                          clear H
                                          have H := H1
                                          clear H1
                                          obtain rfl := Option.some.inj H
                                          go_wp2
                                          go_ret
                                          exact ⟨by first | rfl | (simp; done) | (simp [*]; done), by repeat (first | exact Drawn0.refl _ | apply Drawn0.step)⟩
                                        · replace c51 := Bool.eq_false_iff.mpr c51
                                          subst c51
                                          have H1 : (if (bt x0_24 x5_5) = 95 then (lightstrconv_underscoreOK.l0 kj47 x0_24 95 x4_24 (wrap64 (x5_5 + 1))) else (lightstrconv_underscoreOK.l0 kj47 x0_24 33 x4_24 (wrap64 (x5_5 + 1)))) = some r := by rw [if_neg (show ¬ (false = true) by decide)] at H; exact H
                                          clear H
                                          have H := H1
                                          clear H1
                                          by_cases c52 : (bt x0_24 x5_5) = 95
                                          · rw [if_pos c52] at H
                                            have c52b0 : ((bt x0_24 x5_5) == 95) = true := beq_iff_eq.mpr c52
                                            have c52b1 : ((bt x0_24 x5_5) != 95) = false := bne_eq_false_iff_eq.mpr c52
                                            clear c52
                                            have H' := Aside0.mk H
                                            clear H
                                            go_wp2
                                            go_roundg kj47
                                            case measure => have := HJ1.out; have := HJ7.out; have := HJ10.out; have := HJ24.out; have := HK5.out; have := HJ33.out; have := HJ45.out; have := HJ47.out; omega
                                            case rel => exact ⟨(95), (wrap64 (x5_5 + 1)), (by first | rfl | (simp; done) | (simp [*]; done)), (by first | rfl | (simp; done) | (simp [*]; done)), H', ⟨by have := HJ1.out; have := HJ7.out; have := HJ10.out; have := HJ24.out; have := HK5.out; have := HJ33.out; have := HJ45.out; have := HJ47.out; omega⟩, by repeat (first | exact Drawn0.refl _ | apply Drawn0.step)⟩
                                          · rw [if_neg c52] at H
                                            have c52b0 : ((bt x0_24 x5_5) == 95) = false := beq_eq_false_iff_ne.mpr c52
                                            have c52b1 : ((bt x0_24 x5_5) != 95) = true := bne_iff_ne.mpr c52
                                            have H' := Aside0.mk H
                                            clear H
                                            go_wp2
                                            go_roundg kj47
                                            case measure => have := HJ1.out; have := HJ7.out; have := HJ10.out; have := HJ24.out; have := HK5.out; have := HJ33.out; have := HJ45.out; have := HJ47.out; omega
                                            case rel => exact ⟨(33), (wrap64 (x5_5 + 1)), (by first | rfl | (simp; done) | (simp [*]; done)), (by first | rfl | (simp; done) | (simp [*]; done)), H', ⟨by have := HJ1.out; have := HJ7.out; have := HJ10.out; have := HJ24.out; have := HK5.out; have := HJ33.out; have := HJ45.out; have := HJ47.out; omega⟩, by repeat (first | exact Drawn0.refl _ | apply Drawn0.step)⟩
                        · rw [if_neg c32] at H
                          exact absurd H (by simp)
                      · rw [if_neg c31] at H
                        have c31b0 : decide (x5_5 < (x0_24.size : Int)) = false := decide_eq_false c31
                        clear c31
                        obtain rfl := Option.some.inj H
                        go_wp2
                        go_ret
                        exact ⟨by first | rfl | (simp; done) | (simp [*]; done), by repeat (first | exact Drawn0.refl _ | apply Drawn0.step)⟩

end Go.Proofs.YtnmochachiieaaaDoor.PFnBeforeFalls
