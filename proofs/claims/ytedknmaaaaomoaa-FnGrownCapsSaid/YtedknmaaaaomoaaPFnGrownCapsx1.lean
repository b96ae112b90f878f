-- Written by hprint.py, a program of this session
import Derived.Test.YtedknmaaaaomoaaPFnGrownCapsx0
namespace Go.Proofs.Ytedknmaaaaomoaa.PFnGrownCaps
open Go.RowKit Go.Proofs.Ytedknmaaaaomoaa.Hand Go.Proofs.YtedknmaaaaomoaaW.PrintWords Go.Proofs.YtedknmaaaaomoaaW.PrintLast Go.Proofs.YtedknmaaaaomoaaW.PrintMore
attribute [local go_sem] max2_int min2_int max_two min_two max_three min_three max_four min_four   -- for this text's walks alone
set_option linter.unusedVariables false
set_option linter.unusedSimpArgs false

/-! ### laws_fits: function 5 -/
def laws_fits.l0 : Nat → List Int → Int → Int → Int → Int → Option (Bool)
  | 0, _, _, _, _, _ => none
  | k + 1, x0, x1, x2, x3, x9 => if x9 < (x0.length : Int) then (if 0 ≤ x9 then (if (rd x0 x9) < x2 then (some false) else (if (rd x0 x9) > x3 then (some false) else (laws_fits.l0 k x0 x1 x2 x3 (wrap64 (x9 + 1))))) else (none)) else (some (decide ((x0.length : Int) ≤ x1)))
def laws_fits.f (k : Nat) (l0 : List Int) (a1 : Int) (a2 : Int) (a3 : Int) : Option (Bool) := laws_fits.l0 k l0 a1 a2 a3 0
theorem laws_fits.mono_l : ∀ k, (∀ y0 y1 y2 y3 y4, LeO (laws_fits.l0 k y0 y1 y2 y3 y4) (laws_fits.l0 (k + 1) y0 y1 y2 y3 y4))
  | 0 => fun _ _ _ _ _ r h => by simp [laws_fits.l0] at h
  | k + 1 => by
    have ih0 := laws_fits.mono_l k
    · intro y0 y1 y2 y3 y4
      unfold laws_fits.l0
      repeat' first
      | (with_reducible exact ih0 _ _ _ _ _)
      | (with_reducible exact LeO.refl _)
      | (with_reducible exact LeO.none _)
      | (with_reducible refine LeO.ite ?_ ?_)
      | (with_reducible refine LeO.bind ?_ (fun _ => ?_))
      | exact ih0 _ _ _ _ _
      | exact LeO.none _
      | refine LeO.ite ?_ ?_
      | refine LeO.bind ?_ (fun _ => ?_)
theorem laws_fits.mono : ∀ a0 a1 a2 a3 k, LeO (laws_fits.f k a0 a1 a2 a3) (laws_fits.f (k + 1) a0 a1 a2 a3) := by
  intro a0 a1 a2 a3 k
  have ih0 := laws_fits.mono_l k
  unfold laws_fits.f
  repeat' first
      | (with_reducible exact ih0 _ _ _ _ _)
      | (with_reducible exact LeO.refl _)
      | (with_reducible exact LeO.none _)
      | (with_reducible refine LeO.ite ?_ ?_)
      | (with_reducible refine LeO.bind ?_ (fun _ => ?_))
      | exact ih0 _ _ _ _ _
      | exact LeO.none _
      | refine LeO.ite ?_ ?_
      | refine LeO.bind ?_ (fun _ => ?_)
set_option maxHeartbeats 8000000 in
set_option maxRecDepth 100000 in
theorem laws_fits.calls (k : Nat) (A0 : Option Addr) (c0 : Nat) (l0 : List Int) (a1 : Int) (a2 : Int) (a3 : Int) (r : Bool) (w : World) (hr0 : Kd.C (Kd.int .i64) w A0 l0.length l0) (hc0 : l0.length ≤ c0) (h : laws_fits.f k l0 a1 a2 a3 = some r) :
    Calls Try.prog 5 #[.slice A0 l0.length c0, .int .i64 a1, .int .i64 a2, .int .i64 a3] w fun e w' => e = .returned (.bool r) ∧ Drawn0 w w' := by
  have HR0 := Aside0.mk hr0
  have HC0 := Aside0.mk hc0
  clear hr0 hc0
  have H : (laws_fits.l0 k l0 a1 a2 a3 0) = some r := h
  clear h
  have H' := Aside0.mk H
  clear H
  go_enter Try.func5, Try.ntmps5
  go_wp2
  go_loopg [9] k (fun kq v9 w' => ∃ (x9_1 : Int), v9 = .int .i64 x9_1 ∧ Aside0 (laws_fits.l0 kq l0 a1 a2 a3 x9_1 = some r) ∧ Aside0 (kq ≤ k) ∧ Drawn0 w w')
  case atStart => exact ⟨(0), (by first | rfl | (simp; done) | (simp [*]; done)), H', ⟨Nat.le_refl _⟩, by repeat (first | exact Drawn0.refl _ | apply Drawn0.step)⟩
  case round =>
    clear H'
    try clear p2
    obtain ⟨x9_1, rfl, HA, HK1, ⟨m1, rfl⟩⟩ := hrel
    cases gk with
    | zero => exact absurd HA.out (by simp [laws_fits.l0])
    | succ k1 =>
      have H := HA.out
      clear HA
      simp only [laws_fits.l0] at H
      by_cases c5 : x9_1 < (l0.length : Int)
      · rw [if_pos c5] at H
        have c5b0 : decide (x9_1 < (l0.length : Int)) = true := decide_eq_true c5
        clear c5
        by_cases c6 : 0 ≤ x9_1
        · rw [if_pos c6] at H
          have c6b0 : decide (0 ≤ x9_1) = true := decide_eq_true c6
          clear c6
          by_cases c7 : (rd l0 x9_1) < a2
          · rw [if_pos c7] at H
            have c7b0 : decide ((rd l0 x9_1) < a2) = true := decide_eq_true c7
            clear c7
            obtain rfl := Option.some.inj H
            have p101 : 0 ≤ (x9_1 : Int) := of_decide_eq_true (by first | (with_reducible assumption) | assumption)
            have q101 : x9_1 < (l0.length : Int) := of_decide_eq_true (by first | (with_reducible assumption) | assumption)
            obtain ⟨ad101, e101, hx101_0⟩ := Kd.at_int HR0.out x9_1 p101 q101
            cases e101
            (try simp only [Go.IntWalk.toNatUp] at hx101_0)
            replace p101 := eq_true p101
            replace q101 := eq_true q101
            go_wp2
            go_ret
            exact ⟨by first | rfl | (simp; done) | (simp [*]; done), by repeat (first | exact Drawn0.refl _ | apply Drawn0.step)⟩
          · rw [if_neg c7] at H
            have c7b0 : decide ((rd l0 x9_1) < a2) = false := decide_eq_false c7
            clear c7
            by_cases c8 : (rd l0 x9_1) > a3
            · rw [if_pos c8] at H
              have c8b0 : decide (a3 < (rd l0 x9_1)) = true := decide_eq_true c8
              clear c8
              obtain rfl := Option.some.inj H
              have p101 : 0 ≤ (x9_1 : Int) := of_decide_eq_true (by first | (with_reducible assumption) | assumption)
              have q101 : x9_1 < (l0.length : Int) := of_decide_eq_true (by first | (with_reducible assumption) | assumption)
              obtain ⟨ad101, e101, hx101_0⟩ := Kd.at_int HR0.out x9_1 p101 q101
              cases e101
              (try simp only [Go.IntWalk.toNatUp] at hx101_0)
              replace p101 := eq_true p101
              replace q101 := eq_true q101
              have p102 : 0 ≤ (x9_1 : Int) := of_decide_eq_true (by first | (with_reducible assumption) | assumption)
              have q102 : x9_1 < (l0.length : Int) := of_decide_eq_true (by first | (with_reducible assumption) | assumption)
              obtain ⟨ad102, e102, hx102_0⟩ := Kd.at_int HR0.out x9_1 p102 q102
              obtain rfl : ad101 = ad102 := (by injection e102)
              (try simp only [Go.IntWalk.toNatUp] at hx102_0)
              replace p102 := eq_true p102
              replace q102 := eq_true q102
              go_wp2
              go_ret
              exact ⟨by first | rfl | (simp; done) | (simp [*]; done), by repeat (first | exact Drawn0.refl _ | apply Drawn0.step)⟩
            · rw [if_neg c8] at H
              have c8b0 : decide (a3 < (rd l0 x9_1)) = false := decide_eq_false c8
              clear c8
              have H' := Aside0.mk H
              clear H
              have p101 : 0 ≤ (x9_1 : Int) := of_decide_eq_true (by first | (with_reducible assumption) | assumption)
              have q101 : x9_1 < (l0.length : Int) := of_decide_eq_true (by first | (with_reducible assumption) | assumption)
              obtain ⟨ad101, e101, hx101_0⟩ := Kd.at_int HR0.out x9_1 p101 q101
              cases e101
              (try simp only [Go.IntWalk.toNatUp] at hx101_0)
              replace p101 := eq_true p101
              replace q101 := eq_true q101
              have p102 : 0 ≤ (x9_1 : Int) := of_decide_eq_true (by first | (with_reducible assumption) | assumption)
              have q102 : x9_1 < (l0.length : Int) := of_decide_eq_true (by first | (with_reducible assumption) | assumption)
              obtain ⟨ad102, e102, hx102_0⟩ := Kd.at_int HR0.out x9_1 p102 q102
              obtain rfl : ad101 = ad102 := (by injection e102)
              (try simp only [Go.IntWalk.toNatUp] at hx102_0)
              replace p102 := eq_true p102
              replace q102 := eq_true q102
              go_wp2
              go_roundg k1
              case measure => have := HK1.out; omega
              case rel => exact ⟨(wrap64 (x9_1 + 1)), (by first | rfl | (simp; done) | (simp [*]; done)), H', ⟨by have := HK1.out; omega⟩, by repeat (first | exact Drawn0.refl _ | apply Drawn0.step)⟩
        · rw [if_neg c6] at H
          exact absurd H (by simp)
      · rw [if_neg c5] at H
        have c5b0 : decide (x9_1 < (l0.length : Int)) = false := decide_eq_false c5
        clear c5
        obtain rfl := Option.some.inj H
        go_wp2
        go_ret
        exact ⟨by first | rfl | (simp; done) | (simp [*]; done), by repeat (first | exact Drawn0.refl _ | apply Drawn0.step)⟩

-- BY HAND: function 6 (impl_Grown)

/-! ### spec_at: function 14 -/
def spec_at.f (l0 : List Int) (a1 : Int) : Option (Int) := if a1 < (l0.length : Int) then (if 0 ≤ a1 then (some (rd l0 a1)) else (none)) else (some 0)
set_option maxHeartbeats 8000000 in
set_option maxRecDepth 100000 in
theorem spec_at.calls (A0 : Option Addr) (c0 : Nat) (l0 : List Int) (a1 : Int) (r : Int) (w : World) (hr0 : Kd.C (Kd.int .i64) w A0 l0.length l0) (hc0 : l0.length ≤ c0) (h : spec_at.f l0 a1 = some r) :
    Calls Try.prog 14 #[.slice A0 l0.length c0, .int .i64 a1] w fun e w' => e = .returned (.int .i64 r) ∧ Drawn0 w w' := by
  have HR0 := Aside0.mk hr0
  have HC0 := Aside0.mk hc0
  clear hr0 hc0
  have H : (if a1 < (l0.length : Int) then (if 0 ≤ a1 then (some (rd l0 a1)) else (none)) else (some 0)) = some r := h
  clear h
  by_cases c3 : a1 < (l0.length : Int)
  · rw [if_pos c3] at H
    have c3b0 : decide (a1 < (l0.length : Int)) = true := decide_eq_true c3
    clear c3
    by_cases c4 : 0 ≤ a1
    · rw [if_pos c4] at H
      have c4b0 : decide (0 ≤ a1) = true := decide_eq_true c4
      clear c4
      obtain rfl := Option.some.inj H
      have p103 : 0 ≤ (a1 : Int) := of_decide_eq_true (by first | (with_reducible assumption) | assumption)
      have q103 : a1 < (l0.length : Int) := of_decide_eq_true (by first | (with_reducible assumption) | assumption)
      obtain ⟨ad103, e103, hx103_0⟩ := Kd.at_int HR0.out a1 p103 q103
      cases e103
      (try simp only [Go.IntWalk.toNatUp] at hx103_0)
      replace p103 := eq_true p103
      replace q103 := eq_true q103
      go_enter Try.func14, Try.ntmps14
      go_wp2
      go_ret
      exact ⟨by first | rfl | (simp; done) | (simp [*]; done), by repeat (first | exact Drawn0.refl _ | apply Drawn0.step)⟩
    · rw [if_neg c4] at H
      exact absurd H (by simp)
  · rw [if_neg c3] at H
    have c3b0 : decide (a1 < (l0.length : Int)) = false := decide_eq_false c3
    clear c3
    obtain rfl := Option.some.inj H
    go_enter Try.func14, Try.ntmps14
    go_wp2
    go_ret
    exact ⟨by first | rfl | (simp; done) | (simp [*]; done), by repeat (first | exact Drawn0.refl _ | apply Drawn0.step)⟩

/-! ### spec_At: function 7 -/
def spec_At.f (l0 : List Int) (a1 : Int) : Option (Int) := (spec_at.f l0 a1).bind fun t104 => (some t104)
set_option maxHeartbeats 8000000 in
set_option maxRecDepth 100000 in
theorem spec_At.calls (A0 : Option Addr) (c0 : Nat) (l0 : List Int) (a1 : Int) (r : Int) (w : World) (hr0 : Kd.C (Kd.int .i64) w A0 l0.length l0) (hc0 : l0.length ≤ c0) (h : spec_At.f l0 a1 = some r) :
    Calls Try.prog 7 #[.slice A0 l0.length c0, .int .i64 a1] w fun e w' => e = .returned (.int .i64 r) ∧ Drawn0 w w' := by
  have HR0 := Aside0.mk hr0
  have HC0 := Aside0.mk hc0
  clear hr0 hc0
  have H : ((spec_at.f l0 a1).bind fun t104 => (some t104)) = some r := h
  clear h
  replace H := Option.bind_eq_some_iff.mp H
  obtain ⟨t104, A30, H⟩ := H
  replace H : (some t104) = some r := H
  have A3 := Aside0.mk A30
  clear A30
  obtain rfl := Option.some.inj H
  go_enter Try.func7, Try.ntmps7
  go_wp2_with (first | ((with_reducible refine gate_callee (f := 14) rfl ?_); refine goesL_ (some 7) rfl rfl Try.func14 (by kernel_rfl) rfl #[.slice A0 l0.length c0, .int .i64 a1] rfl (by (try simp only [List.map_toArray, List.map_cons, List.map_nil]); first | done | rfl | (simp only [List.length_drop, List.length_take]; rfl)) ?_; (with_reducible refine (spec_at.calls _ _ l0 a1 t104 _ ?side1 ?side2 A3.out).mono ?_); (case side1 => repeat (first | exact HR0.out | (with_reducible refine Kd.C_alloc ?_ _) | (with_reducible refine Kd.C_drewN ?_ _) | (with_reducible refine Kd.C_drew ?_))); (case side2 => exact HC0.out); rintro e w' ⟨rfl, ⟨nd, rfl⟩⟩; refine ⟨_, rfl, ?_⟩))
  go_ret
  exact ⟨by first | rfl | (simp; done) | (simp [*]; done), by repeat (first | exact Drawn0.refl _ | apply Drawn0.step)⟩

/-! ### laws_FnGrownCaps: function 3 -/
mutual
def laws_FnGrownCaps.j0 : Nat → List Int → List Int → Int → Int → Bool → Option (Bool)
  | 0, _, _, _, _, _ => none
  | k + 1, x0, x1, x2, x3, x21 => if x21 = true then (some true) else ((laws_fits.f k x0 40 0 300).bind fun t105 => (if t105 = true then ((laws_fits.f k x1 60 0 500).bind fun t106 => (if t106 = true then (if x2 < 0 then (laws_FnGrownCaps.j1 k x0 x1 x2 x3 true) else (if x2 > 3000 then (laws_FnGrownCaps.j1 k x0 x1 x2 x3 true) else (if x3 < 0 then (laws_FnGrownCaps.j1 k x0 x1 x2 x3 true) else (laws_FnGrownCaps.j1 k x0 x1 x2 x3 (decide (x3 > 3000)))))) else (laws_FnGrownCaps.j1 k x0 x1 x2 x3 true))) else (laws_FnGrownCaps.j1 k x0 x1 x2 x3 true)))
def laws_FnGrownCaps.j1 : Nat → List Int → List Int → Int → Int → Bool → Option (Bool)
  | 0, _, _, _, _, _ => none
  | k + 1, x0, x1, x2, x3, x45 => if x45 = true then (some true) else ((impl_Grown.f x0 x1 x2 x3).bind fun t107 => (if (t107.length : Int) = (x0.length : Int) then (laws_FnGrownCaps.l0 k x0 x1 x2 x3 t107 0 false 0) else (some false)))
def laws_FnGrownCaps.l0 : Nat → List Int → List Int → Int → Int → List Int → Int → Bool → Int → Option (Bool)
  | 0, _, _, _, _, _, _, _, _ => none
  | k + 1, x0, x1, x2, x3, x9, x10, x11, x12 => if x12 < (x9.length : Int) then ((spec_At.f x1 x12).bind fun t110 => (if 0 ≤ x12 then (if x12 < (x0.length : Int) then (if (rd x9 x12) < (rd x0 x12) then (some false) else (if t110 > 0 then (if (rd x9 x12) > (mx t110 (rd x0 x12)) then (some false) else (if x11 = true then (laws_FnGrownCaps.l0 k x0 x1 x2 x3 x9 (wrap64 (x10 + (wrap64 ((rd x9 x12) - (rd x0 x12))))) true (wrap64 (x12 + 1))) else (if t110 = 0 then (laws_FnGrownCaps.l0 k x0 x1 x2 x3 x9 (wrap64 (x10 + (wrap64 ((rd x9 x12) - (rd x0 x12))))) true (wrap64 (x12 + 1))) else (laws_FnGrownCaps.l0 k x0 x1 x2 x3 x9 (wrap64 (x10 + (wrap64 ((rd x9 x12) - (rd x0 x12))))) (decide ((rd x9 x12) < t110)) (wrap64 (x12 + 1)))))) else (if x11 = true then (laws_FnGrownCaps.l0 k x0 x1 x2 x3 x9 (wrap64 (x10 + (wrap64 ((rd x9 x12) - (rd x0 x12))))) true (wrap64 (x12 + 1))) else (if t110 = 0 then (laws_FnGrownCaps.l0 k x0 x1 x2 x3 x9 (wrap64 (x10 + (wrap64 ((rd x9 x12) - (rd x0 x12))))) true (wrap64 (x12 + 1))) else (laws_FnGrownCaps.l0 k x0 x1 x2 x3 x9 (wrap64 (x10 + (wrap64 ((rd x9 x12) - (rd x0 x12))))) (decide ((rd x9 x12) < t110)) (wrap64 (x12 + 1))))))) else (none)) else (none))) else (if x10 = (mx 0 (wrap64 (x3 - x2))) then (some true) else (if x10 < (wrap64 (x3 - x2)) then (some (!x11)) else (some false)))
end
def laws_FnGrownCaps.f (k : Nat) (l0 : List Int) (l1 : List Int) (a2 : Int) (a3 : Int) : Option (Bool) := if (l0.length : Int) > 2147483647 then (laws_FnGrownCaps.j0 k l0 l1 a2 a3 true) else (laws_FnGrownCaps.j0 k l0 l1 a2 a3 (decide ((l1.length : Int) > 2147483647)))
theorem laws_FnGrownCaps.mono_l : ∀ k, (∀ y0 y1 y2 y3 y4, LeO (laws_FnGrownCaps.j0 k y0 y1 y2 y3 y4) (laws_FnGrownCaps.j0 (k + 1) y0 y1 y2 y3 y4)) ∧ (∀ y0 y1 y2 y3 y4, LeO (laws_FnGrownCaps.j1 k y0 y1 y2 y3 y4) (laws_FnGrownCaps.j1 (k + 1) y0 y1 y2 y3 y4)) ∧ (∀ y0 y1 y2 y3 y4 y5 y6 y7, LeO (laws_FnGrownCaps.l0 k y0 y1 y2 y3 y4 y5 y6 y7) (laws_FnGrownCaps.l0 (k + 1) y0 y1 y2 y3 y4 y5 y6 y7))
  | 0 => ⟨fun _ _ _ _ _ r h => by simp [laws_FnGrownCaps.j0] at h, fun _ _ _ _ _ r h => by simp [laws_FnGrownCaps.j1] at h, fun _ _ _ _ _ _ _ _ r h => by simp [laws_FnGrownCaps.l0] at h⟩
  | k + 1 => by
    obtain ⟨ih0, ih1, ih2⟩ := laws_FnGrownCaps.mono_l k
    refine ⟨?_, ?_, ?_⟩
    · intro y0 y1 y2 y3 y4
      unfold laws_FnGrownCaps.j0
      repeat' first
      | (with_reducible exact ih0 _ _ _ _ _)
      | (with_reducible exact ih1 _ _ _ _ _)
      | (with_reducible exact ih2 _ _ _ _ _ _ _ _)
      | (with_reducible exact laws_fits.mono _ _ _ _ _)
      | (with_reducible exact LeO.refl _)
      | (with_reducible exact LeO.none _)
      | (with_reducible refine LeO.ite ?_ ?_)
      | (with_reducible refine LeO.bind ?_ (fun _ => ?_))
      | exact ih0 _ _ _ _ _
      | exact ih1 _ _ _ _ _
      | exact ih2 _ _ _ _ _ _ _ _
      | exact laws_fits.mono _ _ _ _ _
      | exact LeO.none _
      | refine LeO.ite ?_ ?_
      | refine LeO.bind ?_ (fun _ => ?_)
    · intro y0 y1 y2 y3 y4
      unfold laws_FnGrownCaps.j1
      repeat' first
      | (with_reducible exact ih0 _ _ _ _ _)
      | (with_reducible exact ih1 _ _ _ _ _)
      | (with_reducible exact ih2 _ _ _ _ _ _ _ _)
      | (with_reducible exact laws_fits.mono _ _ _ _ _)
      | (with_reducible exact LeO.refl _)
      | (with_reducible exact LeO.none _)
      | (with_reducible refine LeO.ite ?_ ?_)
      | (with_reducible refine LeO.bind ?_ (fun _ => ?_))
      | exact ih0 _ _ _ _ _
      | exact ih1 _ _ _ _ _
      | exact ih2 _ _ _ _ _ _ _ _
      | exact laws_fits.mono _ _ _ _ _
      | exact LeO.none _
      | refine LeO.ite ?_ ?_
      | refine LeO.bind ?_ (fun _ => ?_)
    · intro y0 y1 y2 y3 y4 y5 y6 y7
      unfold laws_FnGrownCaps.l0
      repeat' first
      | (with_reducible exact ih0 _ _ _ _ _)
      | (with_reducible exact ih1 _ _ _ _ _)
      | (with_reducible exact ih2 _ _ _ _ _ _ _ _)
      | (with_reducible exact laws_fits.mono _ _ _ _ _)
      | (with_reducible exact LeO.refl _)
      | (with_reducible exact LeO.none _)
      | (with_reducible refine LeO.ite ?_ ?_)
      | (with_reducible refine LeO.bind ?_ (fun _ => ?_))
      | exact ih0 _ _ _ _ _
      | exact ih1 _ _ _ _ _
      | exact ih2 _ _ _ _ _ _ _ _
      | exact laws_fits.mono _ _ _ _ _
      | exact LeO.none _
      | refine LeO.ite ?_ ?_
      | refine LeO.bind ?_ (fun _ => ?_)
theorem laws_FnGrownCaps.mono : ∀ a0 a1 a2 a3 k, LeO (laws_FnGrownCaps.f k a0 a1 a2 a3) (laws_FnGrownCaps.f (k + 1) a0 a1 a2 a3) := by
  intro a0 a1 a2 a3 k
  obtain ⟨ih0, ih1, ih2⟩ := laws_FnGrownCaps.mono_l k
  unfold laws_FnGrownCaps.f
  repeat' first
      | (with_reducible exact ih0 _ _ _ _ _)
      | (with_reducible exact ih1 _ _ _ _ _)
      | (with_reducible exact ih2 _ _ _ _ _ _ _ _)
      | (with_reducible exact laws_fits.mono _ _ _ _ _)
      | (with_reducible exact LeO.refl _)
      | (with_reducible exact LeO.none _)
      | (with_reducible refine LeO.ite ?_ ?_)
      | (with_reducible refine LeO.bind ?_ (fun _ => ?_))
      | exact ih0 _ _ _ _ _
      | exact ih1 _ _ _ _ _
      | exact ih2 _ _ _ _ _ _ _ _
      | exact laws_fits.mono _ _ _ _ _
      | exact LeO.none _
      | refine LeO.ite ?_ ?_
      | refine LeO.bind ?_ (fun _ => ?_)
set_option maxHeartbeats 8000000 in
set_option maxRecDepth 100000 in
theorem laws_FnGrownCaps.calls (k : Nat) (A0 : Option Addr) (c0 : Nat) (l0 : List Int) (A1 : Option Addr) (c1 : Nat) (l1 : List Int) (a2 : Int) (a3 : Int) (r : Bool) (w : World) (hr0 : Kd.C (Kd.int .i64) w A0 l0.length l0) (hc0 : l0.length ≤ c0) (hr1 : Kd.C (Kd.int .i64) w A1 l1.length l1) (hc1 : l1.length ≤ c1) (h : laws_FnGrownCaps.f k l0 l1 a2 a3 = some r) :
    Calls Try.prog 3 #[.slice A0 l0.length c0, .slice A1 l1.length c1, .int .i64 a2, .int .i64 a3] w fun e w' => e = .returned (.bool r) ∧ Below w.heap.size w w' := by
  have HR0 := Aside0.mk hr0
  have HC0 := Aside0.mk hc0
  clear hr0 hc0
  have HR1 := Aside0.mk hr1
  have HC1 := Aside0.mk hc1
  clear hr1 hc1
  have HB := Aside0.mk (Below.refl w.heap.size w)
  have H : (if (l0.length : Int) > 2147483647 then (laws_FnGrownCaps.j0 k l0 l1 a2 a3 true) else (laws_FnGrownCaps.j0 k l0 l1 a2 a3 (decide ((l1.length : Int) > 2147483647)))) = some r := h
  clear h
  have HC5 := Aside0.mk H
  clear H
  go_enter Try.func3, Try.ntmps3
  go_upto_region 1 with (fail)
  repeat (go_quiet (fail); go_upto_region 1 with (fail))
  go_cut [21] (fun v21 wc => ∃ (kq : Nat) (x21_4 : Bool), v21 = .bool x21_4 ∧ Aside0 (laws_FnGrownCaps.j0 kq l0 l1 a2 a3 x21_4 = some r) ∧ Aside0 (kq ≤ k) ∧ Aside0 (Below w.heap.size w wc))
  case first =>
    have H := HC5.out
    clear HC5
    by_cases c6 : (l0.length : Int) > 2147483647
    · rw [if_pos c6] at H
      have c6b0 : decide (2147483647 < (l0.length : Int)) = true := decide_eq_true c6
      have c6b1 : decide (2147483647 < l0.length) = true := decide_eq_true (by omega)
      clear c6
      (first | rw [c6b0] | (simp only [i64_w, i32_w]; rw [c6b0]) | skip)
      have H' := Aside0.mk H
      clear H
      go_wp2
      repeat (go_quiet (fail); try go_wp2)
      go_meet
      case rel => exact ⟨_, (true), (by first | rfl | (simp; done) | (simp [*]; done)), H', ⟨by first | omega | exact Nat.le_refl _⟩, ⟨by repeat (first | (with_reducible first | exact HB.out | apply below_alloc | apply pw_below_drewN | apply below_drew1) | exact HB.out)⟩⟩
    · rw [if_neg c6] at H
      have c6b0 : decide (2147483647 < (l0.length : Int)) = false := decide_eq_false c6
      have c6b1 : decide (2147483647 < l0.length) = false := decide_eq_false (by omega)
      clear c6
      (first | rw [c6b0] | (simp only [i64_w, i32_w]; rw [c6b0]) | skip)
      have H' := Aside0.mk H
      clear H
      go_wp2
      repeat (go_quiet (fail); try go_wp2)
      go_meet
      case rel => exact ⟨_, (decide ((l1.length : Int) > 2147483647)), (by first | rfl | (simp; done) | (simp [*]; done)), H', ⟨by first | omega | exact Nat.le_refl _⟩, ⟨by repeat (first | (with_reducible first | exact HB.out | apply below_alloc | apply pw_below_drewN | apply below_drew1) | exact HB.out)⟩⟩
  case rest =>
    clear HC5
    try clear c1
    try clear p2
    try clear c3
    try clear c6
    try clear c6b0
    try clear c6b1
    obtain ⟨kq, x21_4, rfl, HA, HJ4, HB⟩ := hcut
    cases kq with
    | zero => exact absurd HA.out (by simp [laws_FnGrownCaps.j0])
    | succ kj4 =>
      have H := HA.out
      clear HA
      simp only [laws_FnGrownCaps.j0] at H
      by_cases c7 : x21_4 = true
      · subst c7
        have H1 : (some true) = some r := by rw [if_pos rfl] at H; exact H
        clear H
        have H := H1
        clear H1
        obtain rfl := Option.some.inj H
        go_wp2
        repeat (go_quiet (fail); try go_wp2)
        go_ret
        exact ⟨by first | rfl | (simp [errW_none, errW_some] <;> rfl) | (simp [*, errW_none, errW_some] <;> rfl), by repeat (first | (with_reducible first | exact HB.out | apply below_alloc | apply pw_below_drewN | apply below_drew1) | exact HB.out)⟩
      · replace c7 := Bool.eq_false_iff.mpr c7
        subst c7
        have H1 : ((laws_fits.f kj4 l0 40 0 300).bind fun t105 => (if t105 = true then ((laws_fits.f kj4 l1 60 0 500).bind fun t106 => (if t106 = true then (if a2 < 0 then (laws_FnGrownCaps.j1 kj4 l0 l1 a2 a3 true) else (if a2 > 3000 then (laws_FnGrownCaps.j1 kj4 l0 l1 a2 a3 true) else (if a3 < 0 then (laws_FnGrownCaps.j1 kj4 l0 l1 a2 a3 true) else (laws_FnGrownCaps.j1 kj4 l0 l1 a2 a3 (decide (a3 > 3000)))))) else (laws_FnGrownCaps.j1 kj4 l0 l1 a2 a3 true))) else (laws_FnGrownCaps.j1 kj4 l0 l1 a2 a3 true))) = some r := by rw [if_neg (show ¬ (false = true) by decide)] at H; exact H
        clear H
        have H := H1
        clear H1
        have HC8 := Aside0.mk H
        clear H
        go_upto_region 3 with (fail)
        repeat (go_quiet (fail); go_upto_region 3 with (fail))
        go_cut [45] (fun v45 wc => ∃ (kq : Nat) (x45_7 : Bool), v45 = .bool x45_7 ∧ Aside0 (laws_FnGrownCaps.j1 kq l0 l1 a2 a3 x45_7 = some r) ∧ Aside0 (kq ≤ kj4) ∧ Aside0 (Below w.heap.size w wc))
        case first =>
          have H := HC8.out
          clear HC8
          replace H := Option.bind_eq_some_iff.mp H
          obtain ⟨t105, A90, H⟩ := H
          replace H : (if t105 = true then ((laws_fits.f kj4 l1 60 0 500).bind fun t106 => (if t106 = true then (if a2 < 0 then (laws_FnGrownCaps.j1 kj4 l0 l1 a2 a3 true) else (if a2 > 3000 then (laws_FnGrownCaps.j1 kj4 l0 l1 a2 a3 true) else (if a3 < 0 then (laws_FnGrownCaps.j1 kj4 l0 l1 a2 a3 true) else (laws_FnGrownCaps.j1 kj4 l0 l1 a2 a3 (decide (a3 > 3000)))))) else (laws_FnGrownCaps.j1 kj4 l0 l1 a2 a3 true))) else (laws_FnGrownCaps.j1 kj4 l0 l1 a2 a3 true)) = some r := H
          have A9 := Aside0.mk A90
          clear A90
          by_cases c10 : t105 = true
          · subst c10
            have H1 : ((laws_fits.f kj4 l1 60 0 500).bind fun t106 => (if t106 = true then (if a2 < 0 then (laws_FnGrownCaps.j1 kj4 l0 l1 a2 a3 true) else (if a2 > 3000 then (laws_FnGrownCaps.j1 kj4 l0 l1 a2 a3 true) else (if a3 < 0 then (laws_FnGrownCaps.j1 kj4 l0 l1 a2 a3 true) else (laws_FnGrownCaps.j1 kj4 l0 l1 a2 a3 (decide (a3 > 3000)))))) else (laws_FnGrownCaps.j1 kj4 l0 l1 a2 a3 true))) = some r := by rw [if_pos rfl] at H; exact H
            clear H
            have H := H1
            clear H1
            replace H := Option.bind_eq_some_iff.mp H
            obtain ⟨t106, A110, H⟩ := H
            replace H : (if t106 = true then (if a2 < 0 then (laws_FnGrownCaps.j1 kj4 l0 l1 a2 a3 true) else (if a2 > 3000 then (laws_FnGrownCaps.j1 kj4 l0 l1 a2 a3 true) else (if a3 < 0 then (laws_FnGrownCaps.j1 kj4 l0 l1 a2 a3 true) else (laws_FnGrownCaps.j1 kj4 l0 l1 a2 a3 (decide (a3 > 3000)))))) else (laws_FnGrownCaps.j1 kj4 l0 l1 a2 a3 true)) = some r := H
            have A11 := Aside0.mk A110
            clear A110
            by_cases c12 : t106 = true
            · subst c12
              have H1 : (if a2 < 0 then (laws_FnGrownCaps.j1 kj4 l0 l1 a2 a3 true) else (if a2 > 3000 then (laws_FnGrownCaps.j1 kj4 l0 l1 a2 a3 true) else (if a3 < 0 then (laws_FnGrownCaps.j1 kj4 l0 l1 a2 a3 true) else (laws_FnGrownCaps.j1 kj4 l0 l1 a2 a3 (decide (a3 > 3000)))))) = some r := by rw [if_pos rfl] at H; exact H
              clear H
              have H := H1
              clear H1
              by_cases c13 : a2 < 0
              · rw [if_pos c13] at H
                have c13b0 : decide (a2 < 0) = true := decide_eq_true c13
                clear c13
                (first | rw [c13b0] | (simp only [i64_w, i32_w]; rw [c13b0]) | skip)
                have H' := Aside0.mk H
                clear H
                go_wp2_with (first | (go_at_call 5; (with_reducible refine (laws_fits.calls kj4 _ _ l0 40 0 300 true _ ?side1 ?side2 A9.out).mono ?_); (case side1 => repeat (first | exact (Kd.C_below HR0.out HB.out) | (with_reducible refine Kd.C_alloc ?_ _) | (with_reducible refine Kd.C_drewN ?_ _) | (with_reducible refine Kd.C_drew ?_))); (case side2 => exact HC0.out); rintro e w' ⟨rfl, ⟨nd, rfl⟩⟩; (try first | exact ⟨rfl, _, World.drewN_drewN _ _ _⟩ | exact ⟨rfl, _, Eq.trans (World.drewN_drewN _ _ _) (congrArg (World.drewN _) (Nat.add_assoc _ _ _))⟩)) | (go_at_call 5; (with_reducible refine (laws_fits.calls kj4 _ _ l1 60 0 500 true _ ?side1 ?side2 A11.out).mono ?_); (case side1 => repeat (first | exact (Kd.C_below HR1.out (by repeat (first | (with_reducible first | exact HB.out | apply below_alloc | apply pw_below_drewN | apply below_drew1) | exact HB.out))) | (with_reducible refine Kd.C_alloc ?_ _) | (with_reducible refine Kd.C_drewN ?_ _) | (with_reducible refine Kd.C_drew ?_))); (case side2 => exact HC1.out); rintro e w' ⟨rfl, ⟨nd, rfl⟩⟩; (try first | exact ⟨rfl, _, World.drewN_drewN _ _ _⟩ | exact ⟨rfl, _, Eq.trans (World.drewN_drewN _ _ _) (congrArg (World.drewN _) (Nat.add_assoc _ _ _))⟩)))
                repeat (go_quiet (first | (go_at_call 5; (with_reducible refine (laws_fits.calls kj4 _ _ l0 40 0 300 true _ ?side1 ?side2 A9.out).mono ?_); (case side1 => repeat (first | exact (Kd.C_below HR0.out HB.out) | (with_reducible refine Kd.C_alloc ?_ _) | (with_reducible refine Kd.C_drewN ?_ _) | (with_reducible refine Kd.C_drew ?_))); (case side2 => exact HC0.out); rintro e w' ⟨rfl, ⟨nd, rfl⟩⟩; (try first | exact ⟨rfl, _, World.drewN_drewN _ _ _⟩ | exact ⟨rfl, _, Eq.trans (World.drewN_drewN _ _ _) (congrArg (World.drewN _) (Nat.add_assoc _ _ _))⟩)) | (go_at_call 5; (with_reducible refine (laws_fits.calls kj4 _ _ l1 60 0 500 true _ ?side1 ?side2 A11.out).mono ?_); (case side1 => repeat (first | exact (Kd.C_below HR1.out (by repeat (first | (with_reducible first | exact HB.out | apply below_alloc | apply pw_below_drewN | apply below_drew1) | exact HB.out))) | (with_reducible refine Kd.C_alloc ?_ _) | (with_reducible refine Kd.C_drewN ?_ _) | (with_reducible refine Kd.C_drew ?_))); (case side2 => exact HC1.out); rintro e w' ⟨rfl, ⟨nd, rfl⟩⟩; (try first | exact ⟨rfl, _, World.drewN_drewN _ _ _⟩ | exact ⟨rfl, _, Eq.trans (World.drewN_drewN _ _ _) (congrArg (World.drewN _) (Nat.add_assoc _ _ _))⟩))); try go_wp2_with (first | (go_at_call 5; (with_reducible refine (laws_fits.calls kj4 _ _ l0 40 0 300 true _ ?side1 ?side2 A9.out).mono ?_); (case side1 => repeat (first | exact (Kd.C_below HR0.out HB.out) | (with_reducible refine Kd.C_alloc ?_ _) | (with_reducible refine Kd.C_drewN ?_ _) | (with_reducible refine Kd.C_drew ?_))); (case side2 => exact HC0.out); rintro e w' ⟨rfl, ⟨nd, rfl⟩⟩; (try first | exact ⟨rfl, _, World.drewN_drewN _ _ _⟩ | exact ⟨rfl, _, Eq.trans (World.drewN_drewN _ _ _) (congrArg (World.drewN _) (Nat.add_assoc _ _ _))⟩)) | (go_at_call 5; (with_reducible refine (laws_fits.calls kj4 _ _ l1 60 0 500 true _ ?side1 ?side2 A11.out).mono ?_); (case side1 => repeat (first | exact (Kd.C_below HR1.out (by repeat (first | (with_reducible first | exact HB.out | apply below_alloc | apply pw_below_drewN | apply below_drew1) | exact HB.out))) | (with_reducible refine Kd.C_alloc ?_ _) | (with_reducible refine Kd.C_drewN ?_ _) | (with_reducible refine Kd.C_drew ?_))); (case side2 => exact HC1.out); rintro e w' ⟨rfl, ⟨nd, rfl⟩⟩; (try first | exact ⟨rfl, _, World.drewN_drewN _ _ _⟩ | exact ⟨rfl, _, Eq.trans (World.drewN_drewN _ _ _) (congrArg (World.drewN _) (Nat.add_assoc _ _ _))⟩))))
                go_meet
                case rel => exact ⟨_, (true), (by first | rfl | (simp; done) | (simp [*]; done)), H', ⟨by have := HJ4.out; first | omega | exact Nat.le_refl _⟩, ⟨by repeat (first | (with_reducible first | exact HB.out | apply below_alloc | apply pw_below_drewN | apply below_drew1) | exact HB.out)⟩⟩
              · rw [if_neg c13] at H
                have c13b0 : decide (a2 < 0) = false := decide_eq_false c13
                clear c13
                (first | rw [c13b0] | (simp only [i64_w, i32_w]; rw [c13b0]) | skip)
                by_cases c14 : a2 > 3000
                · rw [if_pos c14] at H
                  have c14b0 : decide (3000 < a2) = true := decide_eq_true c14
                  clear c14
                  have H' := Aside0.mk H
                  clear H
                  go_wp2_with (first | (go_at_call 5; (with_reducible refine (laws_fits.calls kj4 _ _ l0 40 0 300 true _ ?side1 ?side2 A9.out).mono ?_); (case side1 => repeat (first | exact (Kd.C_below HR0.out HB.out) | (with_reducible refine Kd.C_alloc ?_ _) | (with_reducible refine Kd.C_drewN ?_ _) | (with_reducible refine Kd.C_drew ?_))); (case side2 => exact HC0.out); rintro e w' ⟨rfl, ⟨nd, rfl⟩⟩; (try first | exact ⟨rfl, _, World.drewN_drewN _ _ _⟩ | exact ⟨rfl, _, Eq.trans (World.drewN_drewN _ _ _) (congrArg (World.drewN _) (Nat.add_assoc _ _ _))⟩)) | (go_at_call 5; (with_reducible refine (laws_fits.calls kj4 _ _ l1 60 0 500 true _ ?side1 ?side2 A11.out).mono ?_); (case side1 => repeat (first | exact (Kd.C_below HR1.out (by repeat (first | (with_reducible first | exact HB.out | apply below_alloc | apply pw_below_drewN | apply below_drew1) | exact HB.out))) | (with_reducible refine Kd.C_alloc ?_ _) | (with_reducible refine Kd.C_drewN ?_ _) | (with_reducible refine Kd.C_drew ?_))); (case side2 => exact HC1.out); rintro e w' ⟨rfl, ⟨nd, rfl⟩⟩; (try first | exact ⟨rfl, _, World.drewN_drewN _ _ _⟩ | exact ⟨rfl, _, Eq.trans (World.drewN_drewN _ _ _) (congrArg (World.drewN _) (Nat.add_assoc _ _ _))⟩)))
                  repeat (go_quiet (first | (go_at_call 5; (with_reducible refine (laws_fits.calls kj4 _ _ l0 40 0 300 true _ ?side1 ?side2 A9.out).mono ?_); (case side1 => repeat (first | exact (Kd.C_below HR0.out HB.out) | (with_reducible refine Kd.C_alloc ?_ _) | (with_reducible refine Kd.C_drewN ?_ _) | (with_reducible refine Kd.C_drew ?_))); (case side2 => exact HC0.out); rintro e w' ⟨rfl, ⟨nd, rfl⟩⟩; (try first | exact ⟨rfl, _, World.drewN_drewN _ _ _⟩ | exact ⟨rfl, _, Eq.trans (World.drewN_drewN _ _ _) (congrArg (World.drewN _) (Nat.add_assoc _ _ _))⟩)) | (go_at_call 5; (with_reducible refine (laws_fits.calls kj4 _ _ l1 60 0 500 true _ ?side1 ?side2 A11.out).mono ?_); (case side1 => repeat (first | exact (Kd.C_below HR1.out (by repeat (first | (with_reducible first | exact HB.out | apply below_alloc | apply pw_below_drewN | apply below_drew1) | exact HB.out))) | (with_reducible refine Kd.C_alloc ?_ _) | (with_reducible refine Kd.C_drewN ?_ _) | (with_reducible refine Kd.C_drew ?_))); (case side2 => exact HC1.out); rintro e w' ⟨rfl, ⟨nd, rfl⟩⟩; (try first | exact ⟨rfl, _, World.drewN_drewN _ _ _⟩ | exact ⟨rfl, _, Eq.trans (World.drewN_drewN _ _ _) (congrArg (World.drewN _) (Nat.add_assoc _ _ _))⟩))); try go_wp2_with (first | (go_at_call 5; (with_reducible refine (laws_fits.calls kj4 _ _ l0 40 0 300 true _ ?side1 ?side2 A9.out).mono ?_); (case side1 => repeat (first | exact (Kd.C_below HR0.out HB.out) | (with_reducible refine Kd.C_alloc ?_ _) | (with_reducible refine Kd.C_drewN ?_ _) | (with_reducible refine Kd.C_drew ?_))); (case side2 => exact HC0.out); rintro e w' ⟨rfl, ⟨nd, rfl⟩⟩; (try first | exact ⟨rfl, _, World.drewN_drewN _ _ _⟩ | exact ⟨rfl, _, Eq.trans (World.drewN_drewN _ _ _) (congrArg (World.drewN _) (Nat.add_assoc _ _ _))⟩)) | (go_at_call 5; (with_reducible refine (laws_fits.calls kj4 _ _ l1 60 0 500 true _ ?side1 ?side2 A11.out).mono ?_); (case side1 => repeat (first | exact (Kd.C_below HR1.out (by repeat (first | (with_reducible first | exact HB.out | apply below_alloc | apply pw_below_drewN | apply below_drew1) | exact HB.out))) | (with_reducible refine Kd.C_alloc ?_ _) | (with_reducible refine Kd.C_drewN ?_ _) | (with_reducible refine Kd.C_drew ?_))); (case side2 => exact HC1.out); rintro e w' ⟨rfl, ⟨nd, rfl⟩⟩; (try first | exact ⟨rfl, _, World.drewN_drewN _ _ _⟩ | exact ⟨rfl, _, Eq.trans (World.drewN_drewN _ _ _) (congrArg (World.drewN _) (Nat.add_assoc _ _ _))⟩))))
                  go_meet
                  case rel => exact ⟨_, (true), (by first | rfl | (simp; done) | (simp [*]; done)), H', ⟨by have := HJ4.out; first | omega | exact Nat.le_refl _⟩, ⟨by repeat (first | (with_reducible first | exact HB.out | apply below_alloc | apply pw_below_drewN | apply below_drew1) | exact HB.out)⟩⟩
                · rw [if_neg c14] at H
                  have c14b0 : decide (3000 < a2) = false := decide_eq_false c14
                  clear c14
                  by_cases c15 : a3 < 0
                  · rw [if_pos c15] at H
                    have c15b0 : decide (a3 < 0) = true := decide_eq_true c15
                    clear c15
                    have H' := Aside0.mk H
                    clear H
                    go_wp2_with (first | (go_at_call 5; (with_reducible refine (laws_fits.calls kj4 _ _ l0 40 0 300 true _ ?side1 ?side2 A9.out).mono ?_); (case side1 => repeat (first | exact (Kd.C_below HR0.out HB.out) | (with_reducible refine Kd.C_alloc ?_ _) | (with_reducible refine Kd.C_drewN ?_ _) | (with_reducible refine Kd.C_drew ?_))); (case side2 => exact HC0.out); rintro e w' ⟨rfl, ⟨nd, rfl⟩⟩; (try first | exact ⟨rfl, _, World.drewN_drewN _ _ _⟩ | exact ⟨rfl, _, Eq.trans (World.drewN_drewN _ _ _) (congrArg (World.drewN _) (Nat.add_assoc _ _ _))⟩)) | (go_at_call 5; (with_reducible refine (laws_fits.calls kj4 _ _ l1 60 0 500 true _ ?side1 ?side2 A11.out).mono ?_); (case side1 => repeat (first | exact (Kd.C_below HR1.out (by repeat (first | (with_reducible first | exact HB.out | apply below_alloc | apply pw_below_drewN | apply below_drew1) | exact HB.out))) | (with_reducible refine Kd.C_alloc ?_ _) | (with_reducible refine Kd.C_drewN ?_ _) | (with_reducible refine Kd.C_drew ?_))); (case side2 => exact HC1.out); rintro e w' ⟨rfl, ⟨nd, rfl⟩⟩; (try first | exact ⟨rfl, _, World.drewN_drewN _ _ _⟩ | exact ⟨rfl, _, Eq.trans (World.drewN_drewN _ _ _) (congrArg (World.drewN _) (Nat.add_assoc _ _ _))⟩)))
                    repeat (go_quiet (first | (go_at_call 5; (with_reducible refine (laws_fits.calls kj4 _ _ l0 40 0 300 true _ ?side1 ?side2 A9.out).mono ?_); (case side1 => repeat (first | exact (Kd.C_below HR0.out HB.out) | (with_reducible refine Kd.C_alloc ?_ _) | (with_reducible refine Kd.C_drewN ?_ _) | (with_reducible refine Kd.C_drew ?_))); (case side2 => exact HC0.out); rintro e w' ⟨rfl, ⟨nd, rfl⟩⟩; (try first | exact ⟨rfl, _, World.drewN_drewN _ _ _⟩ | exact ⟨rfl, _, Eq.trans (World.drewN_drewN _ _ _) (congrArg (World.drewN _) (Nat.add_assoc _ _ _))⟩)) | (go_at_call 5; (with_reducible refine (laws_fits.calls kj4 _ _ l1 60 0 500 true _ ?side1 ?side2 A11.out).mono ?_); (case side1 => repeat (first | exact (Kd.C_below HR1.out (by repeat (first | (with_reducible first | exact HB.out | apply below_alloc | apply pw_below_drewN | apply below_drew1) | exact HB.out))) | (with_reducible refine Kd.C_alloc ?_ _) | (with_reducible refine Kd.C_drewN ?_ _) | (with_reducible refine Kd.C_drew ?_))); (case side2 => exact HC1.out); rintro e w' ⟨rfl, ⟨nd, rfl⟩⟩; (try first | exact ⟨rfl, _, World.drewN_drewN _ _ _⟩ | exact ⟨rfl, _, Eq.trans (World.drewN_drewN _ _ _) (congrArg (World.drewN _) (Nat.add_assoc _ _ _))⟩))); try go_wp2_with (first | (go_at_call 5; (with_reducible refine (laws_fits.calls kj4 _ _ l0 40 0 300 true _ ?side1 ?side2 A9.out).mono ?_); (case side1 => repeat (first | exact (Kd.C_below HR0.out HB.out) | (with_reducible refine Kd.C_alloc ?_ _) | (with_reducible refine Kd.C_drewN ?_ _) | (with_reducible refine Kd.C_drew ?_))); (case side2 => exact HC0.out); rintro e w' ⟨rfl, ⟨nd, rfl⟩⟩; (try first | exact ⟨rfl, _, World.drewN_drewN _ _ _⟩ | exact ⟨rfl, _, Eq.trans (World.drewN_drewN _ _ _) (congrArg (World.drewN _) (Nat.add_assoc _ _ _))⟩)) | (go_at_call 5; (with_reducible refine (laws_fits.calls kj4 _ _ l1 60 0 500 true _ ?side1 ?side2 A11.out).mono ?_); (case side1 => repeat (first | exact (Kd.C_below HR1.out (by repeat (first | (with_reducible first | exact HB.out | apply below_alloc | apply pw_below_drewN | apply below_drew1) | exact HB.out))) | (with_reducible refine Kd.C_alloc ?_ _) | (with_reducible refine Kd.C_drewN ?_ _) | (with_reducible refine Kd.C_drew ?_))); (case side2 => exact HC1.out); rintro e w' ⟨rfl, ⟨nd, rfl⟩⟩; (try first | exact ⟨rfl, _, World.drewN_drewN _ _ _⟩ | exact ⟨rfl, _, Eq.trans (World.drewN_drewN _ _ _) (congrArg (World.drewN _) (Nat.add_assoc _ _ _))⟩))))
                    go_meet
                    case rel => exact ⟨_, (true), (by first | rfl | (simp; done) | (simp [*]; done)), H', ⟨by have := HJ4.out; first | omega | exact Nat.le_refl _⟩, ⟨by repeat (first | (with_reducible first | exact HB.out | apply below_alloc | apply pw_below_drewN | apply below_drew1) | exact HB.out)⟩⟩
                  · rw [if_neg c15] at H
                    have c15b0 : decide (a3 < 0) = false := decide_eq_false c15
                    clear c15
                    have H' := Aside0.mk H
                    clear H
                    go_wp2_with (first | (go_at_call 5; (with_reducible refine (laws_fits.calls kj4 _ _ l0 40 0 300 true _ ?side1 ?side2 A9.out).mono ?_); (case side1 => repeat (first | exact (Kd.C_below HR0.out HB.out) | (with_reducible refine Kd.C_alloc ?_ _) | (with_reducible refine Kd.C_drewN ?_ _) | (with_reducible refine Kd.C_drew ?_))); (case side2 => exact HC0.out); rintro e w' ⟨rfl, ⟨nd, rfl⟩⟩; (try first | exact ⟨rfl, _, World.drewN_drewN _ _ _⟩ | exact ⟨rfl, _, Eq.trans (World.drewN_drewN _ _ _) (congrArg (World.drewN _) (Nat.add_assoc _ _ _))⟩)) | (go_at_call 5; (with_reducible refine (laws_fits.calls kj4 _ _ l1 60 0 500 true _ ?side1 ?side2 A11.out).mono ?_); (case side1 => repeat (first | exact (Kd.C_below HR1.out (by repeat (first | (with_reducible first | exact HB.out | apply below_alloc | apply pw_below_drewN | apply below_drew1) | exact HB.out))) | (with_reducible refine Kd.C_alloc ?_ _) | (with_reducible refine Kd.C_drewN ?_ _) | (with_reducible refine Kd.C_drew ?_))); (case side2 => exact HC1.out); rintro e w' ⟨rfl, ⟨nd, rfl⟩⟩; (try first | exact ⟨rfl, _, World.drewN_drewN _ _ _⟩ | exact ⟨rfl, _, Eq.trans (World.drewN_drewN _ _ _) (congrArg (World.drewN _) (Nat.add_assoc _ _ _))⟩)))
                    repeat (go_quiet (first | (go_at_call 5; (with_reducible refine (laws_fits.calls kj4 _ _ l0 40 0 300 true _ ?side1 ?side2 A9.out).mono ?_); (case side1 => repeat (first | exact (Kd.C_below HR0.out HB.out) | (with_reducible refine Kd.C_alloc ?_ _) | (with_reducible refine Kd.C_drewN ?_ _) | (with_reducible refine Kd.C_drew ?_))); (case side2 => exact HC0.out); rintro e w' ⟨rfl, ⟨nd, rfl⟩⟩; (try first | exact ⟨rfl, _, World.drewN_drewN _ _ _⟩ | exact ⟨rfl, _, Eq.trans (World.drewN_drewN _ _ _) (congrArg (World.drewN _) (Nat.add_assoc _ _ _))⟩)) | (go_at_call 5; (with_reducible refine (laws_fits.calls kj4 _ _ l1 60 0 500 true _ ?side1 ?side2 A11.out).mono ?_); (case side1 => repeat (first | exact (Kd.C_below HR1.out (by repeat (first | (with_reducible first | exact HB.out | apply below_alloc | apply pw_below_drewN | apply below_drew1) | exact HB.out))) | (with_reducible refine Kd.C_alloc ?_ _) | (with_reducible refine Kd.C_drewN ?_ _) | (with_reducible refine Kd.C_drew ?_))); (case side2 => exact HC1.out); rintro e w' ⟨rfl, ⟨nd, rfl⟩⟩; (try first | exact ⟨rfl, _, World.drewN_drewN _ _ _⟩ | exact ⟨rfl, _, Eq.trans (World.drewN_drewN _ _ _) (congrArg (World.drewN _) (Nat.add_assoc _ _ _))⟩))); try go_wp2_with (first | (go_at_call 5; (with_reducible refine (laws_fits.calls kj4 _ _ l0 40 0 300 true _ ?side1 ?side2 A9.out).mono ?_); (case side1 => repeat (first | exact (Kd.C_below HR0.out HB.out) | (with_reducible refine Kd.C_alloc ?_ _) | (with_reducible refine Kd.C_drewN ?_ _) | (with_reducible refine Kd.C_drew ?_))); (case side2 => exact HC0.out); rintro e w' ⟨rfl, ⟨nd, rfl⟩⟩; (try first | exact ⟨rfl, _, World.drewN_drewN _ _ _⟩ | exact ⟨rfl, _, Eq.trans (World.drewN_drewN _ _ _) (congrArg (World.drewN _) (Nat.add_assoc _ _ _))⟩)) | (go_at_call 5; (with_reducible refine (laws_fits.calls kj4 _ _ l1 60 0 500 true _ ?side1 ?side2 A11.out).mono ?_); (case side1 => repeat (first | exact (Kd.C_below HR1.out (by repeat (first | (with_reducible first | exact HB.out | apply below_alloc | apply pw_below_drewN | apply below_drew1) | exact HB.out))) | (with_reducible refine Kd.C_alloc ?_ _) | (with_reducible refine Kd.C_drewN ?_ _) | (with_reducible refine Kd.C_drew ?_))); (case side2 => exact HC1.out); rintro e w' ⟨rfl, ⟨nd, rfl⟩⟩; (try first | exact ⟨rfl, _, World.drewN_drewN _ _ _⟩ | exact ⟨rfl, _, Eq.trans (World.drewN_drewN _ _ _) (congrArg (World.drewN _) (Nat.add_assoc _ _ _))⟩))))
                    go_meet
                    case rel => exact ⟨_, (decide (a3 > 3000)), (by first | rfl | (simp; done) | (simp [*]; done)), H', ⟨by have := HJ4.out; first | omega | exact Nat.le_refl _⟩, ⟨by repeat (first | (with_reducible first | exact HB.out | apply below_alloc | apply pw_below_drewN | apply below_drew1) | exact HB.out)⟩⟩
            · replace c12 := Bool.eq_false_iff.mpr c12
              subst c12
              have H1 : (laws_FnGrownCaps.j1 kj4 l0 l1 a2 a3 true) = some r := by rw [if_neg (show ¬ (false = true) by decide)] at H; exact H
              clear H
              have H := H1
              clear H1
              have H' := Aside0.mk H
              clear H
              go_wp2_with (first | (go_at_call 5; (with_reducible refine (laws_fits.calls kj4 _ _ l0 40 0 300 true _ ?side1 ?side2 A9.out).mono ?_); (case side1 => repeat (first | exact (Kd.C_below HR0.out HB.out) | (with_reducible refine Kd.C_alloc ?_ _) | (with_reducible refine Kd.C_drewN ?_ _) | (with_reducible refine Kd.C_drew ?_))); (case side2 => exact HC0.out); rintro e w' ⟨rfl, ⟨nd, rfl⟩⟩; (try first | exact ⟨rfl, _, World.drewN_drewN _ _ _⟩ | exact ⟨rfl, _, Eq.trans (World.drewN_drewN _ _ _) (congrArg (World.drewN _) (Nat.add_assoc _ _ _))⟩)) | (go_at_call 5; (with_reducible refine (laws_fits.calls kj4 _ _ l1 60 0 500 false _ ?side1 ?side2 A11.out).mono ?_); (case side1 => repeat (first | exact (Kd.C_below HR1.out (by repeat (first | (with_reducible first | exact HB.out | apply below_alloc | apply pw_below_drewN | apply below_drew1) | exact HB.out))) | (with_reducible refine Kd.C_alloc ?_ _) | (with_reducible refine Kd.C_drewN ?_ _) | (with_reducible refine Kd.C_drew ?_))); (case side2 => exact HC1.out); rintro e w' ⟨rfl, ⟨nd, rfl⟩⟩; (try first | exact ⟨rfl, _, World.drewN_drewN _ _ _⟩ | exact ⟨rfl, _, Eq.trans (World.drewN_drewN _ _ _) (congrArg (World.drewN _) (Nat.add_assoc _ _ _))⟩)))
              repeat (go_quiet (first | (go_at_call 5; (with_reducible refine (laws_fits.calls kj4 _ _ l0 40 0 300 true _ ?side1 ?side2 A9.out).mono ?_); (case side1 => repeat (first | exact (Kd.C_below HR0.out HB.out) | (with_reducible refine Kd.C_alloc ?_ _) | (with_reducible refine Kd.C_drewN ?_ _) | (with_reducible refine Kd.C_drew ?_))); (case side2 => exact HC0.out); rintro e w' ⟨rfl, ⟨nd, rfl⟩⟩; (try first | exact ⟨rfl, _, World.drewN_drewN _ _ _⟩ | exact ⟨rfl, _, Eq.trans (World.drewN_drewN _ _ _) (congrArg (World.drewN _) (Nat.add_assoc _ _ _))⟩)) | (go_at_call 5; (with_reducible refine (laws_fits.calls kj4 _ _ l1 60 0 500 false _ ?side1 ?side2 A11.out).mono ?_); (case side1 => repeat (first | exact (Kd.C_below HR1.out (by repeat (first | (with_reducible first | exact HB.out | apply below_alloc | apply pw_below_drewN | apply below_drew1) | exact HB.out))) | (with_reducible refine Kd.C_alloc ?_ _) | (with_reducible refine Kd.C_drewN ?_ _) | (with_reducible refine Kd.C_drew ?_))); (case side2 => exact HC1.out); rintro e w' ⟨rfl, ⟨nd, rfl⟩⟩; (try first | exact ⟨rfl, _, World.drewN_drewN _ _ _⟩ | exact ⟨rfl, _, Eq.trans (World.drewN_drewN _ _ _) (congrArg (World.drewN _) (Nat.add_assoc _ _ _))⟩))); try go_wp2_with (first | (go_at_call 5; (with_reducible refine (laws_fits.calls kj4 _ _ l0 40 0 300 true _ ?side1 ?side2 A9.out).mono ?_); (case side1 => repeat (first | exact (Kd.C_below HR0.out HB.out) | (with_reducible refine Kd.C_alloc ?_ _) | (with_reducible refine Kd.C_drewN ?_ _) | (with_reducible refine Kd.C_drew ?_))); (case side2 => exact HC0.out); rintro e w' ⟨rfl, ⟨nd, rfl⟩⟩; (try first | exact ⟨rfl, _, World.drewN_drewN _ _ _⟩ | exact ⟨rfl, _, Eq.trans (World.drewN_drewN _ _ _) (congrArg (World.drewN _) (Nat.add_assoc _ _ _))⟩)) | (go_at_call 5; (with_reducible refine (laws_fits.calls kj4 _ _ l1 60 0 500 false _ ?side1 ?side2 A11.out).mono ?_); (case side1 => repeat (first | exact (Kd.C_below HR1.out (by repeat (first | (with_reducible first | exact HB.out | apply below_alloc | apply pw_below_drewN | apply below_drew1) | exact HB.out))) | (with_reducible refine Kd.C_alloc ?_ _) | (with_reducible refine Kd.C_drewN ?_ _) | (with_reducible refine Kd.C_drew ?_))); (case side2 => exact HC1.out); rintro e w' ⟨rfl, ⟨nd, rfl⟩⟩; (try first | exact ⟨rfl, _, World.drewN_drewN _ _ _⟩ | exact ⟨rfl, _, Eq.trans (World.drewN_drewN _ _ _) (congrArg (World.drewN _) (Nat.add_assoc _ _ _))⟩))))
              go_meet
              case rel => exact ⟨_, (true), (by first | rfl | (simp; done) | (simp [*]; done)), H', ⟨by have := HJ4.out; first | omega | exact Nat.le_refl _⟩, ⟨by repeat (first | (with_reducible first | exact HB.out | apply below_alloc | apply pw_below_drewN | apply below_drew1) | exact HB.out)⟩⟩
          · replace c10 := Bool.eq_false_iff.mpr c10
            subst c10
            have H1 : (laws_FnGrownCaps.j1 kj4 l0 l1 a2 a3 true) = some r := by rw [if_neg (show ¬ (false = true) by decide)] at H; exact H
            clear H
            have H := H1
            clear H1
            have H' := Aside0.mk H
            clear H
            go_wp2_with (first | (go_at_call 5; (with_reducible refine (laws_fits.calls kj4 _ _ l0 40 0 300 false _ ?side1 ?side2 A9.out).mono ?_); (case side1 => repeat (first | exact (Kd.C_below HR0.out HB.out) | (with_reducible refine Kd.C_alloc ?_ _) | (with_reducible refine Kd.C_drewN ?_ _) | (with_reducible refine Kd.C_drew ?_))); (case side2 => exact HC0.out); rintro e w' ⟨rfl, ⟨nd, rfl⟩⟩; (try first | exact ⟨rfl, _, World.drewN_drewN _ _ _⟩ | exact ⟨rfl, _, Eq.trans (World.drewN_drewN _ _ _) (congrArg (World.drewN _) (Nat.add_assoc _ _ _))⟩)))
            repeat (go_quiet (first | (go_at_call 5; (with_reducible refine (laws_fits.calls kj4 _ _ l0 40 0 300 false _ ?side1 ?side2 A9.out).mono ?_); (case side1 => repeat (first | exact (Kd.C_below HR0.out HB.out) | (with_reducible refine Kd.C_alloc ?_ _) | (with_reducible refine Kd.C_drewN ?_ _) | (with_reducible refine Kd.C_drew ?_))); (case side2 => exact HC0.out); rintro e w' ⟨rfl, ⟨nd, rfl⟩⟩; (try first | exact ⟨rfl, _, World.drewN_drewN _ _ _⟩ | exact ⟨rfl, _, Eq.trans (World.drewN_drewN _ _ _) (congrArg (World.drewN _) (Nat.add_assoc _ _ _))⟩))); try go_wp2_with (first | (go_at_call 5; (with_reducible refine (laws_fits.calls kj4 _ _ l0 40 0 300 false _ ?side1 ?side2 A9.out).mono ?_); (case side1 => repeat (first | exact (Kd.C_below HR0.out HB.out) | (with_reducible refine Kd.C_alloc ?_ _) | (with_reducible refine Kd.C_drewN ?_ _) | (with_reducible refine Kd.C_drew ?_))); (case side2 => exact HC0.out); rintro e w' ⟨rfl, ⟨nd, rfl⟩⟩; (try first | exact ⟨rfl, _, World.drewN_drewN _ _ _⟩ | exact ⟨rfl, _, Eq.trans (World.drewN_drewN _ _ _) (congrArg (World.drewN _) (Nat.add_assoc _ _ _))⟩))))
            go_meet
            case rel => exact ⟨_, (true), (by first | rfl | (simp; done) | (simp [*]; done)), H', ⟨by have := HJ4.out; first | omega | exact Nat.le_refl _⟩, ⟨by repeat (first | (with_reducible first | exact HB.out | apply below_alloc | apply pw_below_drewN | apply below_drew1) | exact HB.out)⟩⟩
        case rest =>
          clear HC8
          try clear c1
          try clear p2
          try clear c3
          try clear c6
          try clear c6b0
          try clear c6b1
          try clear c7
          try clear c10
          try clear c12
          try clear c13
          try clear c13b0
          try clear c14
          try clear c14b0
          try clear c15
          try clear c15b0
          try clear p2
          obtain ⟨kq, x45_7, rfl, HA, HJ7, HB⟩ := hcut
          cases kq with
          | zero => exact absurd HA.out (by simp [laws_FnGrownCaps.j1])
          | succ kj7 =>
            have H := HA.out
            clear HA
            simp only [laws_FnGrownCaps.j1] at H
            by_cases c16 : x45_7 = true
            · subst c16
              have H1 : (some true) = some r := by rw [if_pos rfl] at H; exact H
              clear H
              have H := H1
              clear H1
              obtain rfl := Option.some.inj H
              go_wp2
              repeat (go_quiet (fail); try go_wp2)
              go_ret
              exact ⟨by first | rfl | (simp [errW_none, errW_some] <;> rfl) | (simp [*, errW_none, errW_some] <;> rfl), by repeat (first | (with_reducible first | exact HB.out | apply below_alloc | apply pw_below_drewN | apply below_drew1) | exact HB.out)⟩
            · replace c16 := Bool.eq_false_iff.mpr c16
              subst c16
              have H1 : ((impl_Grown.f l0 l1 a2 a3).bind fun t107 => (if (t107.length : Int) = (l0.length : Int) then (laws_FnGrownCaps.l0 kj7 l0 l1 a2 a3 t107 0 false 0) else (some false))) = some r := by rw [if_neg (show ¬ (false = true) by decide)] at H; exact H
              clear H
              have H := H1
              clear H1
              replace H := Option.bind_eq_some_iff.mp H
              obtain ⟨t107, A170, H⟩ := H
              replace H : (if (t107.length : Int) = (l0.length : Int) then (laws_FnGrownCaps.l0 kj7 l0 l1 a2 a3 t107 0 false 0) else (some false)) = some r := H
              have A17 := Aside0.mk A170
              clear A170
              by_cases c18 : (t107.length : Int) = (l0.length : Int)
              · rw [if_pos c18] at H
                have c18b0 : ((t107.length : Int) == (l0.length : Int)) = true := beq_iff_eq.mpr c18
                have c18b1 : ((t107.length : Int) != (l0.length : Int)) = false := bne_eq_false_iff_eq.mpr c18
                have c18b2 : (t107.length == l0.length) = true := by first | simpa using c18 | (simp at c18 ⊢; omega)
                clear c18
                have H' := Aside0.mk H
                clear H
                go_wp2_with (first | (go_at_call 6; (with_reducible refine (impl_Grown.calls _ _ l0 _ _ l1 a2 a3 t107 _ ?side1 ?side2 ?side3 ?side4 A17.out).mono ?_); (case side1 => repeat (first | exact (Kd.C_below HR0.out HB.out) | (with_reducible refine Kd.C_alloc ?_ _) | (with_reducible refine Kd.C_drewN ?_ _) | (with_reducible refine Kd.C_drew ?_))); (case side2 => exact HC0.out); (case side3 => repeat (first | exact (Kd.C_below HR1.out HB.out) | (with_reducible refine Kd.C_alloc ?_ _) | (with_reducible refine Kd.C_drewN ?_ _) | (with_reducible refine Kd.C_drew ?_))); (case side4 => exact HC1.out); rintro e w19 ⟨v108, rfl, ho0, hb⟩; have n0_ := Aside0.mk (Kd.R_lower ho0 (below_size (by repeat (first | (with_reducible first | exact HB.out | apply below_alloc | apply pw_below_drewN | apply below_drew1) | exact HB.out)))); have n1_ := Aside0.mk (below_step (by repeat (first | (with_reducible first | exact HB.out | apply below_alloc | apply pw_below_drewN | apply below_drew1) | exact HB.out)) hb); clear HB; have HO109 := n0_; have HB := n1_; clear n0_ n1_; (try clear hb); (try clear hb2); (try clear hk); (try clear hi); (try clear ho0); obtain ⟨Ao20, co20, eo20⟩ := Kd.R_slice HO109.out; subst eo20))
                repeat (go_quiet (first | (go_at_call 6; (with_reducible refine (impl_Grown.calls _ _ l0 _ _ l1 a2 a3 t107 _ ?side1 ?side2 ?side3 ?side4 A17.out).mono ?_); (case side1 => repeat (first | exact (Kd.C_below HR0.out HB.out) | (with_reducible refine Kd.C_alloc ?_ _) | (with_reducible refine Kd.C_drewN ?_ _) | (with_reducible refine Kd.C_drew ?_))); (case side2 => exact HC0.out); (case side3 => repeat (first | exact (Kd.C_below HR1.out HB.out) | (with_reducible refine Kd.C_alloc ?_ _) | (with_reducible refine Kd.C_drewN ?_ _) | (with_reducible refine Kd.C_drew ?_))); (case side4 => exact HC1.out); rintro e w19 ⟨v108, rfl, ho0, hb⟩; have n0_ := Aside0.mk (Kd.R_lower ho0 (below_size (by repeat (first | (with_reducible first | exact HB.out | apply below_alloc | apply pw_below_drewN | apply below_drew1) | exact HB.out)))); have n1_ := Aside0.mk (below_step (by repeat (first | (with_reducible first | exact HB.out | apply below_alloc | apply pw_below_drewN | apply below_drew1) | exact HB.out)) hb); clear HB; have HO109 := n0_; have HB := n1_; clear n0_ n1_; (try clear hb); (try clear hb2); (try clear hk); (try clear hi); (try clear ho0); obtain ⟨Ao20, co20, eo20⟩ := Kd.R_slice HO109.out; subst eo20)); try go_wp2_with (first | (go_at_call 6; (with_reducible refine (impl_Grown.calls _ _ l0 _ _ l1 a2 a3 t107 _ ?side1 ?side2 ?side3 ?side4 A17.out).mono ?_); (case side1 => repeat (first | exact (Kd.C_below HR0.out HB.out) | (with_reducible refine Kd.C_alloc ?_ _) | (with_reducible refine Kd.C_drewN ?_ _) | (with_reducible refine Kd.C_drew ?_))); (case side2 => exact HC0.out); (case side3 => repeat (first | exact (Kd.C_below HR1.out HB.out) | (with_reducible refine Kd.C_alloc ?_ _) | (with_reducible refine Kd.C_drewN ?_ _) | (with_reducible refine Kd.C_drew ?_))); (case side4 => exact HC1.out); rintro e w19 ⟨v108, rfl, ho0, hb⟩; have n0_ := Aside0.mk (Kd.R_lower ho0 (below_size (by repeat (first | (with_reducible first | exact HB.out | apply below_alloc | apply pw_below_drewN | apply below_drew1) | exact HB.out)))); have n1_ := Aside0.mk (below_step (by repeat (first | (with_reducible first | exact HB.out | apply below_alloc | apply pw_below_drewN | apply below_drew1) | exact HB.out)) hb); clear HB; have HO109 := n0_; have HB := n1_; clear n0_ n1_; (try clear hb); (try clear hb2); (try clear hk); (try clear hi); (try clear ho0); obtain ⟨Ao20, co20, eo20⟩ := Kd.R_slice HO109.out; subst eo20)))
                go_loopg [10, 11, 12] kj7 (fun kq v10 v11 v12 w' => ∃ (x10_3 : Int) (x11_3 : Bool) (x12_3 : Int), v10 = .int .i64 x10_3 ∧ v11 = .bool x11_3 ∧ v12 = .int .i64 x12_3 ∧ Aside0 (laws_FnGrownCaps.l0 kq l0 l1 a2 a3 t107 x10_3 x11_3 x12_3 = some r) ∧ Aside0 (kq ≤ kj7) ∧ Aside0 (Kd.R (Kd.int .i64) 3 w' w.heap.size (fun _ => True) (.slice Ao20 t107.length co20) t107) ∧ Aside0 (Below w.heap.size w w'))
                case atStart => exact ⟨(0), (false), (0), (by first | rfl | (simp; done) | (simp [*]; done)), (by first | rfl | (simp; done) | (simp [*]; done)), (by first | rfl | (simp; done) | (simp [*]; done)), H', ⟨Nat.le_refl _⟩, ⟨by (with_reducible repeat (first | apply Kd.R_alloc | apply Kd.R_drewN | apply Kd.R_drew)); exact HO109.out⟩, ⟨by repeat (first | (with_reducible first | exact HB.out | apply below_alloc | apply pw_below_drewN | apply below_drew1) | exact HB.out)⟩⟩
                case round =>
                  clear H'
                  try clear c1
                  try clear p2
                  try clear c3
                  try clear c6
                  try clear c6b0
                  try clear c6b1
                  try clear c7
                  try clear c10
                  try clear c12
                  try clear c13
                  try clear c13b0
                  try clear c14
                  try clear c14b0
                  try clear c15
                  try clear c15b0
                  try clear c16
                  try clear c18
                  try clear c18b0
                  try clear c18b1
                  try clear c18b2
                  try clear p2
                  obtain ⟨x10_3, x11_3, x12_3, rfl, rfl, rfl, HA, HK3, HO_9, HB⟩ := hrel
                  cases gk with
                  | zero => exact absurd HA.out (by simp [laws_FnGrownCaps.l0])
                  | succ k3 =>
                    have H := HA.out
                    clear HA
                    simp only [laws_FnGrownCaps.l0] at H
                    by_cases c21 : x12_3 < (t107.length : Int)
                    · rw [if_pos c21] at H
                      have c21b0 : decide (x12_3 < (t107.length : Int)) = true := decide_eq_true c21
                      clear c21
                      replace H := Option.bind_eq_some_iff.mp H
                      obtain ⟨t110, A220, H⟩ := H
                      replace H : (if 0 ≤ x12_3 then (if x12_3 < (l0.length : Int) then (if (rd t107 x12_3) < (rd l0 x12_3) then (some false) else (if t110 > 0 then (if (rd t107 x12_3) > (mx t110 (rd l0 x12_3)) then (some false) else (if x11_3 = true then (laws_FnGrownCaps.l0 k3 l0 l1 a2 a3 t107 (wrap64 (x10_3 + (wrap64 ((rd t107 x12_3) - (rd l0 x12_3))))) true (wrap64 (x12_3 + 1))) else (if t110 = 0 then (laws_FnGrownCaps.l0 k3 l0 l1 a2 a3 t107 (wrap64 (x10_3 + (wrap64 ((rd t107 x12_3) - (rd l0 x12_3))))) true (wrap64 (x12_3 + 1))) else (laws_FnGrownCaps.l0 k3 l0 l1 a2 a3 t107 (wrap64 (x10_3 + (wrap64 ((rd t107 x12_3) - (rd l0 x12_3))))) (decide ((rd t107 x12_3) < t110)) (wrap64 (x12_3 + 1)))))) else (if x11_3 = true then (laws_FnGrownCaps.l0 k3 l0 l1 a2 a3 t107 (wrap64 (x10_3 + (wrap64 ((rd t107 x12_3) - (rd l0 x12_3))))) true (wrap64 (x12_3 + 1))) else (if t110 = 0 then (laws_FnGrownCaps.l0 k3 l0 l1 a2 a3 t107 (wrap64 (x10_3 + (wrap64 ((rd t107 x12_3) - (rd l0 x12_3))))) true (wrap64 (x12_3 + 1))) else (laws_FnGrownCaps.l0 k3 l0 l1 a2 a3 t107 (wrap64 (x10_3 + (wrap64 ((rd t107 x12_3) - (rd l0 x12_3))))) (decide ((rd t107 x12_3) < t110)) (wrap64 (x12_3 + 1))))))) else (none)) else (none)) = some r := H
                      have A22 := Aside0.mk A220
                      clear A220
                      by_cases c23 : 0 ≤ x12_3
                      · rw [if_pos c23] at H
                        have c23b0 : decide (0 ≤ x12_3) = true := decide_eq_true c23
                        clear c23
                        by_cases c24 : x12_3 < (l0.length : Int)
                        · rw [if_pos c24] at H
                          have c24b0 : decide (x12_3 < (l0.length : Int)) = true := decide_eq_true c24
                          clear c24
                          by_cases c25 : (rd t107 x12_3) < (rd l0 x12_3)
                          · rw [if_pos c25] at H
                            have c25b0 : decide ((rd t107 x12_3) < (rd l0 x12_3)) = true := decide_eq_true c25
                            clear c25
                            obtain rfl := Option.some.inj H
                            go_wp2_with (first | (go_at_call 7; (with_reducible refine (spec_At.calls _ _ l1 x12_3 t110 _ ?side1 ?side2 A22.out).mono ?_); (case side1 => repeat (first | exact (Kd.C_below HR1.out HB.out) | (with_reducible refine Kd.C_alloc ?_ _) | (with_reducible refine Kd.C_drewN ?_ _) | (with_reducible refine Kd.C_drew ?_))); (case side2 => exact HC1.out); rintro e w' ⟨rfl, ⟨nd, rfl⟩⟩; (try first | exact ⟨rfl, _, World.drewN_drewN _ _ _⟩ | exact ⟨rfl, _, Eq.trans (World.drewN_drewN _ _ _) (congrArg (World.drewN _) (Nat.add_assoc _ _ _))⟩); have p111 : 0 ≤ (x12_3 : Int) := of_decide_eq_true (by first | (with_reducible assumption) | assumption); have q111 : x12_3 < (t107.length : Int) := of_decide_eq_true (by first | (with_reducible assumption) | assumption); obtain ⟨ad111, e111, hx111_0⟩ := Kd.at_int (Kd.R_reads' HO_9.out).2.2 x12_3 p111 q111; cases e111; (try simp only [Go.IntWalk.toNatUp] at hx111_0); replace p111 := eq_true p111; replace q111 := eq_true q111; have p112 : 0 ≤ (x12_3 : Int) := of_decide_eq_true (by first | (with_reducible assumption) | assumption); have q112 : x12_3 < (l0.length : Int) := of_decide_eq_true (by first | (with_reducible assumption) | assumption); obtain ⟨ad112, e112, hx112_0⟩ := Kd.at_int HR0.out x12_3 p112 q112; cases e112; replace hx112_0 := (HB.out.cell (World.block_lt_of_cell? w _ hx112_0)).trans hx112_0; (try simp only [Go.IntWalk.toNatUp] at hx112_0); replace p112 := eq_true p112; replace q112 := eq_true q112))
                            repeat (go_quiet (first | (go_at_call 7; (with_reducible refine (spec_At.calls _ _ l1 x12_3 t110 _ ?side1 ?side2 A22.out).mono ?_); (case side1 => repeat (first | exact (Kd.C_below HR1.out HB.out) | (with_reducible refine Kd.C_alloc ?_ _) | (with_reducible refine Kd.C_drewN ?_ _) | (with_reducible refine Kd.C_drew ?_))); (case side2 => exact HC1.out); rintro e w' ⟨rfl, ⟨nd, rfl⟩⟩; (try first | exact ⟨rfl, _, World.drewN_drewN _ _ _⟩ | exact ⟨rfl, _, Eq.trans (World.drewN_drewN _ _ _) (congrArg (World.drewN _) (Nat.add_assoc _ _ _))⟩); have p111 : 0 ≤ (x12_3 : Int) := of_decide_eq_true (by first | (with_reducible assumption) | assumption); have q111 : x12_3 < (t107.length : Int) := of_decide_eq_true (by first | (with_reducible assumption) | assumption); obtain ⟨ad111, e111, hx111_0⟩ := Kd.at_int (Kd.R_reads' HO_9.out).2.2 x12_3 p111 q111; cases e111; (try simp only [Go.IntWalk.toNatUp] at hx111_0); replace p111 := eq_true p111; replace q111 := eq_true q111; have p112 : 0 ≤ (x12_3 : Int) := of_decide_eq_true (by first | (with_reducible assumption) | assumption); have q112 : x12_3 < (l0.length : Int) := of_decide_eq_true (by first | (with_reducible assumption) | assumption); obtain ⟨ad112, e112, hx112_0⟩ := Kd.at_int HR0.out x12_3 p112 q112; cases e112; replace hx112_0 := (HB.out.cell (World.block_lt_of_cell? w _ hx112_0)).trans hx112_0; (try simp only [Go.IntWalk.toNatUp] at hx112_0); replace p112 := eq_true p112; replace q112 := eq_true q112)); try go_wp2_with (first | (go_at_call 7; (with_reducible refine (spec_At.calls _ _ l1 x12_3 t110 _ ?side1 ?side2 A22.out).mono ?_); (case side1 => repeat (first | exact (Kd.C_below HR1.out HB.out) | (with_reducible refine Kd.C_alloc ?_ _) | (with_reducible refine Kd.C_drewN ?_ _) | (with_reducible refine Kd.C_drew ?_))); (case side2 => exact HC1.out); rintro e w' ⟨rfl, ⟨nd, rfl⟩⟩; (try first | exact ⟨rfl, _, World.drewN_drewN _ _ _⟩ | exact ⟨rfl, _, Eq.trans (World.drewN_drewN _ _ _) (congrArg (World.drewN _) (Nat.add_assoc _ _ _))⟩); have p111 : 0 ≤ (x12_3 : Int) := of_decide_eq_true (by first | (with_reducible assumption) | assumption); have q111 : x12_3 < (t107.length : Int) := of_decide_eq_true (by first | (with_reducible assumption) | assumption); obtain ⟨ad111, e111, hx111_0⟩ := Kd.at_int (Kd.R_reads' HO_9.out).2.2 x12_3 p111 q111; cases e111; (try simp only [Go.IntWalk.toNatUp] at hx111_0); replace p111 := eq_true p111; replace q111 := eq_true q111; have p112 : 0 ≤ (x12_3 : Int) := of_decide_eq_true (by first | (with_reducible assumption) | assumption); have q112 : x12_3 < (l0.length : Int) := of_decide_eq_true (by first | (with_reducible assumption) | assumption); obtain ⟨ad112, e112, hx112_0⟩ := Kd.at_int HR0.out x12_3 p112 q112; cases e112; replace hx112_0 := (HB.out.cell (World.block_lt_of_cell? w _ hx112_0)).trans hx112_0; (try simp only [Go.IntWalk.toNatUp] at hx112_0); replace p112 := eq_true p112; replace q112 := eq_true q112)))
                            go_ret
                            exact ⟨by first | rfl | (simp [errW_none, errW_some] <;> rfl) | (simp [*, errW_none, errW_some] <;> rfl), by repeat (first | (with_reducible first | exact HB.out | apply below_alloc | apply pw_below_drewN | apply below_drew1) | exact HB.out)⟩
                          · rw [if_neg c25] at H
                            have c25b0 : decide ((rd t107 x12_3) < (rd l0 x12_3)) = false := decide_eq_false c25
                            clear c25
                            by_cases c26 : t110 > 0
                            · rw [if_pos c26] at H
                              have c26b0 : decide (0 < t110) = true := decide_eq_true c26
                              clear c26
                              obtain ⟨ji27, hji27⟩ : ∃ j_ : Int, (mx t110 (rd l0 x12_3)) = j_ := ⟨_, rfl⟩
                              replace H : (if (rd t107 x12_3) > (ji27) then (some false) else (if x11_3 = true then (laws_FnGrownCaps.l0 k3 l0 l1 a2 a3 t107 (wrap64 (x10_3 + (wrap64 ((rd t107 x12_3) - (rd l0 x12_3))))) true (wrap64 (x12_3 + 1))) else (if t110 = 0 then (laws_FnGrownCaps.l0 k3 l0 l1 a2 a3 t107 (wrap64 (x10_3 + (wrap64 ((rd t107 x12_3) - (rd l0 x12_3))))) true (wrap64 (x12_3 + 1))) else (laws_FnGrownCaps.l0 k3 l0 l1 a2 a3 t107 (wrap64 (x10_3 + (wrap64 ((rd t107 x12_3) - (rd l0 x12_3))))) (decide ((rd t107 x12_3) < t110)) (wrap64 (x12_3 + 1)))))) = some r := by first | (rw [hji27] at H; exact H) | (simp only [hji27] at H ⊢; exact H)
                              (try rw [hji27] at A22)
                              have hji27_ : (if t110 < (rd l0 x12_3) then (rd l0 x12_3) else t110) = ji27 := hji27
                              by_cases c28 : (rd t107 x12_3) > (ji27)
                              · rw [if_pos c28] at H
                                have c28b0 : decide ((ji27) < (rd t107 x12_3)) = true := decide_eq_true c28
                                clear c28
                                obtain rfl := Option.some.inj H
                                go_wp2_with (first | (go_at_call 7; (with_reducible refine (spec_At.calls _ _ l1 x12_3 t110 _ ?side1 ?side2 A22.out).mono ?_); (case side1 => repeat (first | exact (Kd.C_below HR1.out HB.out) | (with_reducible refine Kd.C_alloc ?_ _) | (with_reducible refine Kd.C_drewN ?_ _) | (with_reducible refine Kd.C_drew ?_))); (case side2 => exact HC1.out); rintro e w' ⟨rfl, ⟨nd, rfl⟩⟩; (try first | exact ⟨rfl, _, World.drewN_drewN _ _ _⟩ | exact ⟨rfl, _, Eq.trans (World.drewN_drewN _ _ _) (congrArg (World.drewN _) (Nat.add_assoc _ _ _))⟩); have p111 : 0 ≤ (x12_3 : Int) := of_decide_eq_true (by first | (with_reducible assumption) | assumption); have q111 : x12_3 < (t107.length : Int) := of_decide_eq_true (by first | (with_reducible assumption) | assumption); obtain ⟨ad111, e111, hx111_0⟩ := Kd.at_int (Kd.R_reads' HO_9.out).2.2 x12_3 p111 q111; cases e111; (try simp only [Go.IntWalk.toNatUp] at hx111_0); replace p111 := eq_true p111; replace q111 := eq_true q111; have p112 : 0 ≤ (x12_3 : Int) := of_decide_eq_true (by first | (with_reducible assumption) | assumption); have q112 : x12_3 < (l0.length : Int) := of_decide_eq_true (by first | (with_reducible assumption) | assumption); obtain ⟨ad112, e112, hx112_0⟩ := Kd.at_int HR0.out x12_3 p112 q112; cases e112; replace hx112_0 := (HB.out.cell (World.block_lt_of_cell? w _ hx112_0)).trans hx112_0; (try simp only [Go.IntWalk.toNatUp] at hx112_0); replace p112 := eq_true p112; replace q112 := eq_true q112; have p113 : 0 ≤ (x12_3 : Int) := of_decide_eq_true (by first | (with_reducible assumption) | assumption); have q113 : x12_3 < (t107.length : Int) := of_decide_eq_true (by first | (with_reducible assumption) | assumption); obtain ⟨ad113, e113, hx113_0⟩ := Kd.at_int (Kd.R_reads' HO_9.out).2.2 x12_3 p113 q113; obtain rfl : ad111 = ad113 := (by injection e113); (try simp only [Go.IntWalk.toNatUp] at hx113_0); replace p113 := eq_true p113; replace q113 := eq_true q113; have p114 : 0 ≤ (x12_3 : Int) := of_decide_eq_true (by first | (with_reducible assumption) | assumption); have q114 : x12_3 < (l0.length : Int) := of_decide_eq_true (by first | (with_reducible assumption) | assumption); obtain ⟨ad114, e114, hx114_0⟩ := Kd.at_int HR0.out x12_3 p114 q114; obtain rfl : ad112 = ad114 := (by injection e114); replace hx114_0 := (HB.out.cell (World.block_lt_of_cell? w _ hx114_0)).trans hx114_0; (try simp only [Go.IntWalk.toNatUp] at hx114_0); replace p114 := eq_true p114; replace q114 := eq_true q114))
                                repeat (go_quiet (first | (go_at_call 7; (with_reducible refine (spec_At.calls _ _ l1 x12_3 t110 _ ?side1 ?side2 A22.out).mono ?_); (case side1 => repeat (first | exact (Kd.C_below HR1.out HB.out) | (with_reducible refine Kd.C_alloc ?_ _) | (with_reducible refine Kd.C_drewN ?_ _) | (with_reducible refine Kd.C_drew ?_))); (case side2 => exact HC1.out); rintro e w' ⟨rfl, ⟨nd, rfl⟩⟩; (try first | exact ⟨rfl, _, World.drewN_drewN _ _ _⟩ | exact ⟨rfl, _, Eq.trans (World.drewN_drewN _ _ _) (congrArg (World.drewN _) (Nat.add_assoc _ _ _))⟩); have p111 : 0 ≤ (x12_3 : Int) := of_decide_eq_true (by first | (with_reducible assumption) | assumption); have q111 : x12_3 < (t107.length : Int) := of_decide_eq_true (by first | (with_reducible assumption) | assumption); obtain ⟨ad111, e111, hx111_0⟩ := Kd.at_int (Kd.R_reads' HO_9.out).2.2 x12_3 p111 q111; cases e111; (try simp only [Go.IntWalk.toNatUp] at hx111_0); replace p111 := eq_true p111; replace q111 := eq_true q111; have p112 : 0 ≤ (x12_3 : Int) := of_decide_eq_true (by first | (with_reducible assumption) | assumption); have q112 : x12_3 < (l0.length : Int) := of_decide_eq_true (by first | (with_reducible assumption) | assumption); obtain ⟨ad112, e112, hx112_0⟩ := Kd.at_int HR0.out x12_3 p112 q112; cases e112; replace hx112_0 := (HB.out.cell (World.block_lt_of_cell? w _ hx112_0)).trans hx112_0; (try simp only [Go.IntWalk.toNatUp] at hx112_0); replace p112 := eq_true p112; replace q112 := eq_true q112; have p113 : 0 ≤ (x12_3 : Int) := of_decide_eq_true (by first | (with_reducible assumption) | assumption); have q113 : x12_3 < (t107.length : Int) := of_decide_eq_true (by first | (with_reducible assumption) | assumption); obtain ⟨ad113, e113, hx113_0⟩ := Kd.at_int (Kd.R_reads' HO_9.out).2.2 x12_3 p113 q113; obtain rfl : ad111 = ad113 := (by injection e113); (try simp only [Go.IntWalk.toNatUp] at hx113_0); replace p113 := eq_true p113; replace q113 := eq_true q113; have p114 : 0 ≤ (x12_3 : Int) := of_decide_eq_true (by first | (with_reducible assumption) | assumption); have q114 : x12_3 < (l0.length : Int) := of_decide_eq_true (by first | (with_reducible assumption) | assumption); obtain ⟨ad114, e114, hx114_0⟩ := Kd.at_int HR0.out x12_3 p114 q114; obtain rfl : ad112 = ad114 := (by injection e114); replace hx114_0 := (HB.out.cell (World.block_lt_of_cell? w _ hx114_0)).trans hx114_0; (try simp only [Go.IntWalk.toNatUp] at hx114_0); replace p114 := eq_true p114; replace q114 := eq_true q114)); try go_wp2_with (first | (go_at_call 7; (with_reducible refine (spec_At.calls _ _ l1 x12_3 t110 _ ?side1 ?side2 A22.out).mono ?_); (case side1 => repeat (first | exact (Kd.C_below HR1.out HB.out) | (with_reducible refine Kd.C_alloc ?_ _) | (with_reducible refine Kd.C_drewN ?_ _) | (with_reducible refine Kd.C_drew ?_))); (case side2 => exact HC1.out); rintro e w' ⟨rfl, ⟨nd, rfl⟩⟩; (try first | exact ⟨rfl, _, World.drewN_drewN _ _ _⟩ | exact ⟨rfl, _, Eq.trans (World.drewN_drewN _ _ _) (congrArg (World.drewN _) (Nat.add_assoc _ _ _))⟩); have p111 : 0 ≤ (x12_3 : Int) := of_decide_eq_true (by first | (with_reducible assumption) | assumption); have q111 : x12_3 < (t107.length : Int) := of_decide_eq_true (by first | (with_reducible assumption) | assumption); obtain ⟨ad111, e111, hx111_0⟩ := Kd.at_int (Kd.R_reads' HO_9.out).2.2 x12_3 p111 q111; cases e111; (try simp only [Go.IntWalk.toNatUp] at hx111_0); replace p111 := eq_true p111; replace q111 := eq_true q111; have p112 : 0 ≤ (x12_3 : Int) := of_decide_eq_true (by first | (with_reducible assumption) | assumption); have q112 : x12_3 < (l0.length : Int) := of_decide_eq_true (by first | (with_reducible assumption) | assumption); obtain ⟨ad112, e112, hx112_0⟩ := Kd.at_int HR0.out x12_3 p112 q112; cases e112; replace hx112_0 := (HB.out.cell (World.block_lt_of_cell? w _ hx112_0)).trans hx112_0; (try simp only [Go.IntWalk.toNatUp] at hx112_0); replace p112 := eq_true p112; replace q112 := eq_true q112; have p113 : 0 ≤ (x12_3 : Int) := of_decide_eq_true (by first | (with_reducible assumption) | assumption); have q113 : x12_3 < (t107.length : Int) := of_decide_eq_true (by first | (with_reducible assumption) | assumption); obtain ⟨ad113, e113, hx113_0⟩ := Kd.at_int (Kd.R_reads' HO_9.out).2.2 x12_3 p113 q113; obtain rfl : ad111 = ad113 := (by injection e113); (try simp only [Go.IntWalk.toNatUp] at hx113_0); replace p113 := eq_true p113; replace q113 := eq_true q113; have p114 : 0 ≤ (x12_3 : Int) := of_decide_eq_true (by first | (with_reducible assumption) | assumption); have q114 : x12_3 < (l0.length : Int) := of_decide_eq_true (by first | (with_reducible assumption) | assumption); obtain ⟨ad114, e114, hx114_0⟩ := Kd.at_int HR0.out x12_3 p114 q114; obtain rfl : ad112 = ad114 := (by injection e114); replace hx114_0 := (HB.out.cell (World.block_lt_of_cell? w _ hx114_0)).trans hx114_0; (try simp only [Go.IntWalk.toNatUp] at hx114_0); replace p114 := eq_true p114; replace q114 := eq_true q114)))
                                go_ret
                                exact ⟨by first | rfl | (simp [errW_none, errW_some] <;> rfl) | (simp only [← hji27]; first | rfl | (simp [errW_none, errW_some] <;> rfl)) | (simp [*, errW_none, errW_some] <;> rfl), by repeat (first | (with_reducible first | exact HB.out | apply below_alloc | apply pw_below_drewN | apply below_drew1) | exact HB.out)⟩
                              · rw [if_neg c28] at H
                                have c28b0 : decide ((ji27) < (rd t107 x12_3)) = false := decide_eq_false c28
                                clear c28
                                by_cases c29 : x11_3 = true
                                · subst c29
                                  have H1 : (laws_FnGrownCaps.l0 k3 l0 l1 a2 a3 t107 (wrap64 (x10_3 + (wrap64 ((rd t107 x12_3) - (rd l0 x12_3))))) true (wrap64 (x12_3 + 1))) = some r := by rw [if_pos rfl] at H; exact H
                                  clear H
                                  have H := H1
                                  clear H1
                                  have H' := Aside0.mk H
                                  clear H
                                  go_wp2_with (first | (go_at_call 7; (with_reducible refine (spec_At.calls _ _ l1 x12_3 t110 _ ?side1 ?side2 A22.out).mono ?_); (case side1 => repeat (first | exact (Kd.C_below HR1.out HB.out) | (with_reducible refine Kd.C_alloc ?_ _) | (with_reducible refine Kd.C_drewN ?_ _) | (with_reducible refine Kd.C_drew ?_))); (case side2 => exact HC1.out); rintro e w' ⟨rfl, ⟨nd, rfl⟩⟩; (try first | exact ⟨rfl, _, World.drewN_drewN _ _ _⟩ | exact ⟨rfl, _, Eq.trans (World.drewN_drewN _ _ _) (congrArg (World.drewN _) (Nat.add_assoc _ _ _))⟩); have p111 : 0 ≤ (x12_3 : Int) := of_decide_eq_true (by first | (with_reducible assumption) | assumption); have q111 : x12_3 < (t107.length : Int) := of_decide_eq_true (by first | (with_reducible assumption) | assumption); obtain ⟨ad111, e111, hx111_0⟩ := Kd.at_int (Kd.R_reads' HO_9.out).2.2 x12_3 p111 q111; cases e111; (try simp only [Go.IntWalk.toNatUp] at hx111_0); replace p111 := eq_true p111; replace q111 := eq_true q111; have p112 : 0 ≤ (x12_3 : Int) := of_decide_eq_true (by first | (with_reducible assumption) | assumption); have q112 : x12_3 < (l0.length : Int) := of_decide_eq_true (by first | (with_reducible assumption) | assumption); obtain ⟨ad112, e112, hx112_0⟩ := Kd.at_int HR0.out x12_3 p112 q112; cases e112; replace hx112_0 := (HB.out.cell (World.block_lt_of_cell? w _ hx112_0)).trans hx112_0; (try simp only [Go.IntWalk.toNatUp] at hx112_0); replace p112 := eq_true p112; replace q112 := eq_true q112; have p113 : 0 ≤ (x12_3 : Int) := of_decide_eq_true (by first | (with_reducible assumption) | assumption); have q113 : x12_3 < (t107.length : Int) := of_decide_eq_true (by first | (with_reducible assumption) | assumption); obtain ⟨ad113, e113, hx113_0⟩ := Kd.at_int (Kd.R_reads' HO_9.out).2.2 x12_3 p113 q113; obtain rfl : ad111 = ad113 := (by injection e113); (try simp only [Go.IntWalk.toNatUp] at hx113_0); replace p113 := eq_true p113; replace q113 := eq_true q113; have p114 : 0 ≤ (x12_3 : Int) := of_decide_eq_true (by first | (with_reducible assumption) | assumption); have q114 : x12_3 < (l0.length : Int) := of_decide_eq_true (by first | (with_reducible assumption) | assumption); obtain ⟨ad114, e114, hx114_0⟩ := Kd.at_int HR0.out x12_3 p114 q114; obtain rfl : ad112 = ad114 := (by injection e114); replace hx114_0 := (HB.out.cell (World.block_lt_of_cell? w _ hx114_0)).trans hx114_0; (try simp only [Go.IntWalk.toNatUp] at hx114_0); replace p114 := eq_true p114; replace q114 := eq_true q114; have p115 : 0 ≤ (x12_3 : Int) := of_decide_eq_true (by first | (with_reducible assumption) | assumption); have q115 : x12_3 < (t107.length : Int) := of_decide_eq_true (by first | (with_reducible assumption) | assumption); obtain ⟨ad115, e115, hx115_0⟩ := Kd.at_int (Kd.R_reads' HO_9.out).2.2 x12_3 p115 q115; obtain rfl : ad111 = ad115 := (by injection e115); (try simp only [Go.IntWalk.toNatUp] at hx115_0); replace p115 := eq_true p115; replace q115 := eq_true q115; have p116 : 0 ≤ (x12_3 : Int) := of_decide_eq_true (by first | (with_reducible assumption) | assumption); have q116 : x12_3 < (l0.length : Int) := of_decide_eq_true (by first | (with_reducible assumption) | assumption); obtain ⟨ad116, e116, hx116_0⟩ := Kd.at_int HR0.out x12_3 p116 q116; obtain rfl : ad112 = ad116 := (by injection e116); replace hx116_0 := (HB.out.cell (World.block_lt_of_cell? w _ hx116_0)).trans hx116_0; (try simp only [Go.IntWalk.toNatUp] at hx116_0); replace p116 := eq_true p116; replace q116 := eq_true q116))
                                  repeat (go_quiet (first | (go_at_call 7; (with_reducible refine (spec_At.calls _ _ l1 x12_3 t110 _ ?side1 ?side2 A22.out).mono ?_); (case side1 => repeat (first | exact (Kd.C_below HR1.out HB.out) | (with_reducible refine Kd.C_alloc ?_ _) | (with_reducible refine Kd.C_drewN ?_ _) | (with_reducible refine Kd.C_drew ?_))); (case side2 => exact HC1.out); rintro e w' ⟨rfl, ⟨nd, rfl⟩⟩; (try first | exact ⟨rfl, _, World.drewN_drewN _ _ _⟩ | exact ⟨rfl, _, Eq.trans (World.drewN_drewN _ _ _) (congrArg (World.drewN _) (Nat.add_assoc _ _ _))⟩); have p111 : 0 ≤ (x12_3 : Int) := of_decide_eq_true (by first | (with_reducible assumption) | assumption); have q111 : x12_3 < (t107.length : Int) := of_decide_eq_true (by first | (with_reducible assumption) | assumption); obtain ⟨ad111, e111, hx111_0⟩ := Kd.at_int (Kd.R_reads' HO_9.out).2.2 x12_3 p111 q111; cases e111; (try simp only [Go.IntWalk.toNatUp] at hx111_0); replace p111 := eq_true p111; replace q111 := eq_true q111; have p112 : 0 ≤ (x12_3 : Int) := of_decide_eq_true (by first | (with_reducible assumption) | assumption); have q112 : x12_3 < (l0.length : Int) := of_decide_eq_true (by first | (with_reducible assumption) | assumption); obtain ⟨ad112, e112, hx112_0⟩ := Kd.at_int HR0.out x12_3 p112 q112; cases e112; replace hx112_0 := (HB.out.cell (World.block_lt_of_cell? w _ hx112_0)).trans hx112_0; (try simp only [Go.IntWalk.toNatUp] at hx112_0); replace p112 := eq_true p112; replace q112 := eq_true q112; have p113 : 0 ≤ (x12_3 : Int) := of_decide_eq_true (by first | (with_reducible assumption) | assumption); have q113 : x12_3 < (t107.length : Int) := of_decide_eq_true (by first | (with_reducible assumption) | assumption); obtain ⟨ad113, e113, hx113_0⟩ := Kd.at_int (Kd.R_reads' HO_9.out).2.2 x12_3 p113 q113; obtain rfl : ad111 = ad113 := (by injection e113); (try simp only [Go.IntWalk.toNatUp] at hx113_0); replace p113 := eq_true p113; replace q113 := eq_true q113; have p114 : 0 ≤ (x12_3 : Int) := of_decide_eq_true (by first | (with_reducible assumption) | assumption); have q114 : x12_3 < (l0.length : Int) := of_decide_eq_true (by first | (with_reducible assumption) | assumption); obtain ⟨ad114, e114, hx114_0⟩ := Kd.at_int HR0.out x12_3 p114 q114; obtain rfl : ad112 = ad114 := (by injection e114); replace hx114_0 := (HB.out.cell (World.block_lt_of_cell? w _ hx114_0)).trans hx114_0; (try simp only [Go.IntWalk.toNatUp] at hx114_0); replace p114 := eq_true p114; replace q114 := eq_true q114; have p115 : 0 ≤ (x12_3 : Int) := of_decide_eq_true (by first | (with_reducible assumption) | assumption); have q115 : x12_3 < (t107.length : Int) := of_decide_eq_true (by first | (with_reducible assumption) | assumption); obtain ⟨ad115, e115, hx115_0⟩ := Kd.at_int (Kd.R_reads' HO_9.out).2.2 x12_3 p115 q115; obtain rfl : ad111 = ad115 := (by injection e115); (try simp only [Go.IntWalk.toNatUp] at hx115_0); replace p115 := eq_true p115; replace q115 := eq_true q115; have p116 : 0 ≤ (x12_3 : Int) := of_decide_eq_true (by first | (with_reducible assumption) | assumption); have q116 : x12_3 < (l0.length : Int) := of_decide_eq_true (by first | (with_reducible assumption) | assumption); obtain ⟨ad116, e116, hx116_0⟩ := Kd.at_int HR0.out x12_3 p116 q116; obtain rfl : ad112 = ad116 := (by injection e116); replace hx116_0 := (HB.out.cell (World.block_lt_of_cell? w _ hx116_0)).trans hx116_0; (try simp only [Go.IntWalk.toNatUp] at hx116_0); replace p116 := eq_true p116; replace q116 := eq_true q116)); try go_wp2_with (first | (go_at_call 7; (with_reducible refine (spec_At.calls _ _ l1 x12_3 t110 _ ?side1 ?side2 A22.out).mono ?_); (case side1 => repeat (first | exact (Kd.C_below HR1.out HB.out) | (with_reducible refine Kd.C_alloc ?_ _) | (with_reducible refine Kd.C_drewN ?_ _) | (with_reducible refine Kd.C_drew ?_))); (case side2 => exact HC1.out); rintro e w' ⟨rfl, ⟨nd, rfl⟩⟩; (try first | exact ⟨rfl, _, World.drewN_drewN _ _ _⟩ | exact ⟨rfl, _, Eq.trans (World.drewN_drewN _ _ _) (congrArg (World.drewN _) (Nat.add_assoc _ _ _))⟩); have p111 : 0 ≤ (x12_3 : Int) := of_decide_eq_true (by first | (with_reducible assumption) | assumption); have q111 : x12_3 < (t107.length : Int) := of_decide_eq_true (by first | (with_reducible assumption) | assumption); obtain ⟨ad111, e111, hx111_0⟩ := Kd.at_int (Kd.R_reads' HO_9.out).2.2 x12_3 p111 q111; cases e111; (try simp only [Go.IntWalk.toNatUp] at hx111_0); replace p111 := eq_true p111; replace q111 := eq_true q111; have p112 : 0 ≤ (x12_3 : Int) := of_decide_eq_true (by first | (with_reducible assumption) | assumption); have q112 : x12_3 < (l0.length : Int) := of_decide_eq_true (by first | (with_reducible assumption) | assumption); obtain ⟨ad112, e112, hx112_0⟩ := Kd.at_int HR0.out x12_3 p112 q112; cases e112; replace hx112_0 := (HB.out.cell (World.block_lt_of_cell? w _ hx112_0)).trans hx112_0; (try simp only [Go.IntWalk.toNatUp] at hx112_0); replace p112 := eq_true p112; replace q112 := eq_true q112; have p113 : 0 ≤ (x12_3 : Int) := of_decide_eq_true (by first | (with_reducible assumption) | assumption); have q113 : x12_3 < (t107.length : Int) := of_decide_eq_true (by first | (with_reducible assumption) | assumption); obtain ⟨ad113, e113, hx113_0⟩ := Kd.at_int (Kd.R_reads' HO_9.out).2.2 x12_3 p113 q113; obtain rfl : ad111 = ad113 := (by injection e113); (try simp only [Go.IntWalk.toNatUp] at hx113_0); replace p113 := eq_true p113; replace q113 := eq_true q113; have p114 : 0 ≤ (x12_3 : Int) := of_decide_eq_true (by first | (with_reducible assumption) | assumption); have q114 : x12_3 < (l0.length : Int) := of_decide_eq_true (by first | (with_reducible assumption) | assumption); obtain ⟨ad114, e114, hx114_0⟩ := Kd.at_int HR0.out x12_3 p114 q114; obtain rfl : ad112 = ad114 := (by injection e114); replace hx114_0 := (HB.out.cell (World.block_lt_of_cell? w _ hx114_0)).trans hx114_0; (try simp only [Go.IntWalk.toNatUp] at hx114_0); replace p114 := eq_true p114; replace q114 := eq_true q114; have p115 : 0 ≤ (x12_3 : Int) := of_decide_eq_true (by first | (with_reducible assumption) | assumption); have q115 : x12_3 < (t107.length : Int) := of_decide_eq_true (by first | (with_reducible assumption) | assumption); obtain ⟨ad115, e115, hx115_0⟩ := Kd.at_int (Kd.R_reads' HO_9.out).2.2 x12_3 p115 q115; obtain rfl : ad111 = ad115 := (by injection e115); (try simp only [Go.IntWalk.toNatUp] at hx115_0); replace p115 := eq_true p115; replace q115 := eq_true q115; have p116 : 0 ≤ (x12_3 : Int) := of_decide_eq_true (by first | (with_reducible assumption) | assumption); have q116 : x12_3 < (l0.length : Int) := of_decide_eq_true (by first | (with_reducible assumption) | assumption); obtain ⟨ad116, e116, hx116_0⟩ := Kd.at_int HR0.out x12_3 p116 q116; obtain rfl : ad112 = ad116 := (by injection e116); replace hx116_0 := (HB.out.cell (World.block_lt_of_cell? w _ hx116_0)).trans hx116_0; (try simp only [Go.IntWalk.toNatUp] at hx116_0); replace p116 := eq_true p116; replace q116 := eq_true q116)))
                                  go_roundg k3
                                  case measure => have := HJ4.out; have := HJ7.out; have := HK3.out; omega
                                  case rel => exact ⟨(wrap64 (x10_3 + (wrap64 ((rd t107 x12_3) - (rd l0 x12_3))))), (true), (wrap64 (x12_3 + 1)), (by first | rfl | (simp; done) | (simp [*]; done)), (by first | rfl | (simp; done) | (simp [*]; done)), (by first | rfl | (simp; done) | (simp [*]; done)), H', ⟨by have := HJ4.out; have := HJ7.out; have := HK3.out; omega⟩, ⟨by (with_reducible repeat (first | apply Kd.R_alloc | apply Kd.R_drewN | apply Kd.R_drew)); exact HO_9.out⟩, ⟨by repeat (first | (with_reducible first | exact HB.out | apply below_alloc | apply pw_below_drewN | apply below_drew1) | exact HB.out)⟩⟩
                                · replace c29 := Bool.eq_false_iff.mpr c29
                                  subst c29
                                  have H1 : (if t110 = 0 then (laws_FnGrownCaps.l0 k3 l0 l1 a2 a3 t107 (wrap64 (x10_3 + (wrap64 ((rd t107 x12_3) - (rd l0 x12_3))))) true (wrap64 (x12_3 + 1))) else (laws_FnGrownCaps.l0 k3 l0 l1 a2 a3 t107 (wrap64 (x10_3 + (wrap64 ((rd t107 x12_3) - (rd l0 x12_3))))) (decide ((rd t107 x12_3) < t110)) (wrap64 (x12_3 + 1)))) = some r := by rw [if_neg (show ¬ (false = true) by decide)] at H; exact H
                                  clear H
                                  have H := H1
                                  clear H1
                                  by_cases c30 : t110 = 0
                                  · rw [if_pos c30] at H
                                    have c30b0 : (t110 == 0) = true := beq_iff_eq.mpr c30
                                    have c30b1 : (t110 != 0) = false := bne_eq_false_iff_eq.mpr c30
                                    clear c30
                                    have H' := Aside0.mk H
                                    clear H
                                    go_wp2_with (first | (go_at_call 7; (with_reducible refine (spec_At.calls _ _ l1 x12_3 t110 _ ?side1 ?side2 A22.out).mono ?_); (case side1 => repeat (first | exact (Kd.C_below HR1.out HB.out) | (with_reducible refine Kd.C_alloc ?_ _) | (with_reducible refine Kd.C_drewN ?_ _) | (with_reducible refine Kd.C_drew ?_))); (case side2 => exact HC1.out); rintro e w' ⟨rfl, ⟨nd, rfl⟩⟩; (try first | exact ⟨rfl, _, World.drewN_drewN _ _ _⟩ | exact ⟨rfl, _, Eq.trans (World.drewN_drewN _ _ _) (congrArg (World.drewN _) (Nat.add_assoc _ _ _))⟩); have p111 : 0 ≤ (x12_3 : Int) := of_decide_eq_true (by first | (with_reducible assumption) | assumption); have q111 : x12_3 < (t107.length : Int) := of_decide_eq_true (by first | (with_reducible assumption) | assumption); obtain ⟨ad111, e111, hx111_0⟩ := Kd.at_int (Kd.R_reads' HO_9.out).2.2 x12_3 p111 q111; cases e111; (try simp only [Go.IntWalk.toNatUp] at hx111_0); replace p111 := eq_true p111; replace q111 := eq_true q111; have p112 : 0 ≤ (x12_3 : Int) := of_decide_eq_true (by first | (with_reducible assumption) | assumption); have q112 : x12_3 < (l0.length : Int) := of_decide_eq_true (by first | (with_reducible assumption) | assumption); obtain ⟨ad112, e112, hx112_0⟩ := Kd.at_int HR0.out x12_3 p112 q112; cases e112; replace hx112_0 := (HB.out.cell (World.block_lt_of_cell? w _ hx112_0)).trans hx112_0; (try simp only [Go.IntWalk.toNatUp] at hx112_0); replace p112 := eq_true p112; replace q112 := eq_true q112; have p113 : 0 ≤ (x12_3 : Int) := of_decide_eq_true (by first | (with_reducible assumption) | assumption); have q113 : x12_3 < (t107.length : Int) := of_decide_eq_true (by first | (with_reducible assumption) | assumption); obtain ⟨ad113, e113, hx113_0⟩ := Kd.at_int (Kd.R_reads' HO_9.out).2.2 x12_3 p113 q113; obtain rfl : ad111 = ad113 := (by injection e113); (try simp only [Go.IntWalk.toNatUp] at hx113_0); replace p113 := eq_true p113; replace q113 := eq_true q113; have p114 : 0 ≤ (x12_3 : Int) := of_decide_eq_true (by first | (with_reducible assumption) | assumption); have q114 : x12_3 < (l0.length : Int) := of_decide_eq_true (by first | (with_reducible assumption) | assumption); obtain ⟨ad114, e114, hx114_0⟩ := Kd.at_int HR0.out x12_3 p114 q114; obtain rfl : ad112 = ad114 := (by injection e114); replace hx114_0 := (HB.out.cell (World.block_lt_of_cell? w _ hx114_0)).trans hx114_0; (try simp only [Go.IntWalk.toNatUp] at hx114_0); replace p114 := eq_true p114; replace q114 := eq_true q114; have p115 : 0 ≤ (x12_3 : Int) := of_decide_eq_true (by first | (with_reducible assumption) | assumption); have q115 : x12_3 < (t107.length : Int) := of_decide_eq_true (by first | (with_reducible assumption) | assumption); obtain ⟨ad115, e115, hx115_0⟩ := Kd.at_int (Kd.R_reads' HO_9.out).2.2 x12_3 p115 q115; obtain rfl : ad111 = ad115 := (by injection e115); (try simp only [Go.IntWalk.toNatUp] at hx115_0); replace p115 := eq_true p115; replace q115 := eq_true q115; have p116 : 0 ≤ (x12_3 : Int) := of_decide_eq_true (by first | (with_reducible assumption) | assumption); have q116 : x12_3 < (l0.length : Int) := of_decide_eq_true (by first | (with_reducible assumption) | assumption); obtain ⟨ad116, e116, hx116_0⟩ := Kd.at_int HR0.out x12_3 p116 q116; obtain rfl : ad112 = ad116 := (by injection e116); replace hx116_0 := (HB.out.cell (World.block_lt_of_cell? w _ hx116_0)).trans hx116_0; (try simp only [Go.IntWalk.toNatUp] at hx116_0); replace p116 := eq_true p116; replace q116 := eq_true q116))
                                    repeat (go_quiet (first | (go_at_call 7; (with_reducible refine (spec_At.calls _ _ l1 x12_3 t110 _ ?side1 ?side2 A22.out).mono ?_); (case side1 => repeat (first | exact (Kd.C_below HR1.out HB.out) | (with_reducible refine Kd.C_alloc ?_ _) | (with_reducible refine Kd.C_drewN ?_ _) | (with_reducible refine Kd.C_drew ?_))); (case side2 => exact HC1.out); rintro e w' ⟨rfl, ⟨nd, rfl⟩⟩; (try first | exact ⟨rfl, _, World.drewN_drewN _ _ _⟩ | exact ⟨rfl, _, Eq.trans (World.drewN_drewN _ _ _) (congrArg (World.drewN _) (Nat.add_assoc _ _ _))⟩); have p111 : 0 ≤ (x12_3 : Int) := of_decide_eq_true (by first | (with_reducible assumption) | assumption); have q111 : x12_3 < (t107.length : Int) := of_decide_eq_true (by first | (with_reducible assumption) | assumption); obtain ⟨ad111, e111, hx111_0⟩ := Kd.at_int (Kd.R_reads' HO_9.out).2.2 x12_3 p111 q111; cases e111; (try simp only [Go.IntWalk.toNatUp] at hx111_0); replace p111 := eq_true p111; replace q111 := eq_true q111; have p112 : 0 ≤ (x12_3 : Int) := of_decide_eq_true (by first | (with_reducible assumption) | assumption); have q112 : x12_3 < (l0.length : Int) := of_decide_eq_true (by first | (with_reducible assumption) | assumption); obtain ⟨ad112, e112, hx112_0⟩ := Kd.at_int HR0.out x12_3 p112 q112; cases e112; replace hx112_0 := (HB.out.cell (World.block_lt_of_cell? w _ hx112_0)).trans hx112_0; (try simp only [Go.IntWalk.toNatUp] at hx112_0); replace p112 := eq_true p112; replace q112 := eq_true q112; have p113 : 0 ≤ (x12_3 : Int) := of_decide_eq_true (by first | (with_reducible assumption) | assumption); have q113 : x12_3 < (t107.length : Int) := of_decide_eq_true (by first | (with_reducible assumption) | assumption); obtain ⟨ad113, e113, hx113_0⟩ := Kd.at_int (Kd.R_reads' HO_9.out).2.2 x12_3 p113 q113; obtain rfl : ad111 = ad113 := (by injection e113); (try simp only [Go.IntWalk.toNatUp] at hx113_0); replace p113 := eq_true p113; replace q113 := eq_true q113; have p114 : 0 ≤ (x12_3 : Int) := of_decide_eq_true (by first | (with_reducible assumption) | assumption); have q114 : x12_3 < (l0.length : Int) := of_decide_eq_true (by first | (with_reducible assumption) | assumption); obtain ⟨ad114, e114, hx114_0⟩ := Kd.at_int HR0.out x12_3 p114 q114; obtain rfl : ad112 = ad114 := (by injection e114); replace hx114_0 := (HB.out.cell (World.block_lt_of_cell? w _ hx114_0)).trans hx114_0; (try simp only [Go.IntWalk.toNatUp] at hx114_0); replace p114 := eq_true p114; replace q114 := eq_true q114; have p115 : 0 ≤ (x12_3 : Int) := of_decide_eq_true (by first | (with_reducible assumption) | assumption); have q115 : x12_3 < (t107.length : Int) := of_decide_eq_true (by first | (with_reducible assumption) | assumption); obtain ⟨ad115, e115, hx115_0⟩ := Kd.at_int (Kd.R_reads' HO_9.out).2.2 x12_3 p115 q115; obtain rfl : ad111 = ad115 := (by injection e115); (try simp only [Go.IntWalk.toNatUp] at hx115_0); replace p115 := eq_true p115; replace q115 := eq_true q115; have p116 : 0 ≤ (x12_3 : Int) := of_decide_eq_true (by first | (with_reducible assumption) | assumption); have q116 : x12_3 < (l0.length : Int) := of_decide_eq_true (by first | (with_reducible assumption) | assumption); obtain ⟨ad116, e116, hx116_0⟩ := Kd.at_int HR0.out x12_3 p116 q116; obtain rfl : ad112 = ad116 := (by injection e116); replace hx116_0 := (HB.out.cell (World.block_lt_of_cell? w _ hx116_0)).trans hx116_0; (try simp only [Go.IntWalk.toNatUp] at hx116_0); replace p116 := eq_true p116; replace q116 := eq_true q116)); try go_wp2_with (first | (go_at_call 7; (with_reducible refine (spec_At.calls _ _ l1 x12_3 t110 _ ?side1 ?side2 A22.out).mono ?_); (case side1 => repeat (first | exact (Kd.C_below HR1.out HB.out) | (with_reducible refine Kd.C_alloc ?_ _) | (with_reducible refine Kd.C_drewN ?_ _) | (with_reducible refine Kd.C_drew ?_))); (case side2 => exact HC1.out); rintro e w' ⟨rfl, ⟨nd, rfl⟩⟩; (try first | exact ⟨rfl, _, World.drewN_drewN _ _ _⟩ | exact ⟨rfl, _, Eq.trans (World.drewN_drewN _ _ _) (congrArg (World.drewN _) (Nat.add_assoc _ _ _))⟩); have p111 : 0 ≤ (x12_3 : Int) := of_decide_eq_true (by first | (with_reducible assumption) | assumption); have q111 : x12_3 < (t107.length : Int) := of_decide_eq_true (by first | (with_reducible assumption) | assumption); obtain ⟨ad111, e111, hx111_0⟩ := Kd.at_int (Kd.R_reads' HO_9.out).2.2 x12_3 p111 q111; cases e111; (try simp only [Go.IntWalk.toNatUp] at hx111_0); replace p111 := eq_true p111; replace q111 := eq_true q111; have p112 : 0 ≤ (x12_3 : Int) := of_decide_eq_true (by first | (with_reducible assumption) | assumption); have q112 : x12_3 < (l0.length : Int) := of_decide_eq_true (by first | (with_reducible assumption) | assumption); obtain ⟨ad112, e112, hx112_0⟩ := Kd.at_int HR0.out x12_3 p112 q112; cases e112; replace hx112_0 := (HB.out.cell (World.block_lt_of_cell? w _ hx112_0)).trans hx112_0; (try simp only [Go.IntWalk.toNatUp] at hx112_0); replace p112 := eq_true p112; replace q112 := eq_true q112; have p113 : 0 ≤ (x12_3 : Int) := of_decide_eq_true (by first | (with_reducible assumption) | assumption); have q113 : x12_3 < (t107.length : Int) := of_decide_eq_true (by first | (with_reducible assumption) | assumption); obtain ⟨ad113, e113, hx113_0⟩ := Kd.at_int (Kd.R_reads' HO_9.out).2.2 x12_3 p113 q113; obtain rfl : ad111 = ad113 := (by injection e113); (try simp only [Go.IntWalk.toNatUp] at hx113_0); replace p113 := eq_true p113; replace q113 := eq_true q113; have p114 : 0 ≤ (x12_3 : Int) := of_decide_eq_true (by first | (with_reducible assumption) | assumption); have q114 : x12_3 < (l0.length : Int) := of_decide_eq_true (by first | (with_reducible assumption) | assumption); obtain ⟨ad114, e114, hx114_0⟩ := Kd.at_int HR0.out x12_3 p114 q114; obtain rfl : ad112 = ad114 := (by injection e114); replace hx114_0 := (HB.out.cell (World.block_lt_of_cell? w _ hx114_0)).trans hx114_0; (try simp only [Go.IntWalk.toNatUp] at hx114_0); replace p114 := eq_true p114; replace q114 := eq_true q114; have p115 : 0 ≤ (x12_3 : Int) := of_decide_eq_true (by first | (with_reducible assumption) | assumption); have q115 : x12_3 < (t107.length : Int) := of_decide_eq_true (by first | (with_reducible assumption) | assumption); obtain ⟨ad115, e115, hx115_0⟩ := Kd.at_int (Kd.R_reads' HO_9.out).2.2 x12_3 p115 q115; obtain rfl : ad111 = ad115 := (by injection e115); (try simp only [Go.IntWalk.toNatUp] at hx115_0); replace p115 := eq_true p115; replace q115 := eq_true q115; have p116 : 0 ≤ (x12_3 : Int) := of_decide_eq_true (by first | (with_reducible assumption) | assumption); have q116 : x12_3 < (l0.length : Int) := of_decide_eq_true (by first | (with_reducible assumption) | assumption); obtain ⟨ad116, e116, hx116_0⟩ := Kd.at_int HR0.out x12_3 p116 q116; obtain rfl : ad112 = ad116 := (by injection e116); replace hx116_0 := (HB.out.cell (World.block_lt_of_cell? w _ hx116_0)).trans hx116_0; (try simp only [Go.IntWalk.toNatUp] at hx116_0); replace p116 := eq_true p116; replace q116 := eq_true q116)))
                                    go_roundg k3
                                    case measure => have := HJ4.out; have := HJ7.out; have := HK3.out; omega
                                    case rel => exact ⟨(wrap64 (x10_3 + (wrap64 ((rd t107 x12_3) - (rd l0 x12_3))))), (true), (wrap64 (x12_3 + 1)), (by first | rfl | (simp; done) | (simp [*]; done)), (by first | rfl | (simp; done) | (simp [*]; done)), (by first | rfl | (simp; done) | (simp [*]; done)), H', ⟨by have := HJ4.out; have := HJ7.out; have := HK3.out; omega⟩, ⟨by (with_reducible repeat (first | apply Kd.R_alloc | apply Kd.R_drewN | apply Kd.R_drew)); exact HO_9.out⟩, ⟨by repeat (first | (with_reducible first | exact HB.out | apply below_alloc | apply pw_below_drewN | apply below_drew1) | exact HB.out)⟩⟩
                                  · rw [if_neg c30] at H
                                    have c30b0 : (t110 == 0) = false := beq_eq_false_iff_ne.mpr c30
                                    have c30b1 : (t110 != 0) = true := bne_iff_ne.mpr c30
                                    have H' := Aside0.mk H
                                    clear H
                                    go_wp2_with (first | (go_at_call 7; (with_reducible refine (spec_At.calls _ _ l1 x12_3 t110 _ ?side1 ?side2 A22.out).mono ?_); (case side1 => repeat (first | exact (Kd.C_below HR1.out HB.out) | (with_reducible refine Kd.C_alloc ?_ _) | (with_reducible refine Kd.C_drewN ?_ _) | (with_reducible refine Kd.C_drew ?_))); (case side2 => exact HC1.out); rintro e w' ⟨rfl, ⟨nd, rfl⟩⟩; (try first | exact ⟨rfl, _, World.drewN_drewN _ _ _⟩ | exact ⟨rfl, _, Eq.trans (World.drewN_drewN _ _ _) (congrArg (World.drewN _) (Nat.add_assoc _ _ _))⟩); have p111 : 0 ≤ (x12_3 : Int) := of_decide_eq_true (by first | (with_reducible assumption) | assumption); have q111 : x12_3 < (t107.length : Int) := of_decide_eq_true (by first | (with_reducible assumption) | assumption); obtain ⟨ad111, e111, hx111_0⟩ := Kd.at_int (Kd.R_reads' HO_9.out).2.2 x12_3 p111 q111; cases e111; (try simp only [Go.IntWalk.toNatUp] at hx111_0); replace p111 := eq_true p111; replace q111 := eq_true q111; have p112 : 0 ≤ (x12_3 : Int) := of_decide_eq_true (by first | (with_reducible assumption) | assumption); have q112 : x12_3 < (l0.length : Int) := of_decide_eq_true (by first | (with_reducible assumption) | assumption); obtain ⟨ad112, e112, hx112_0⟩ := Kd.at_int HR0.out x12_3 p112 q112; cases e112; replace hx112_0 := (HB.out.cell (World.block_lt_of_cell? w _ hx112_0)).trans hx112_0; (try simp only [Go.IntWalk.toNatUp] at hx112_0); replace p112 := eq_true p112; replace q112 := eq_true q112; have p113 : 0 ≤ (x12_3 : Int) := of_decide_eq_true (by first | (with_reducible assumption) | assumption); have q113 : x12_3 < (t107.length : Int) := of_decide_eq_true (by first | (with_reducible assumption) | assumption); obtain ⟨ad113, e113, hx113_0⟩ := Kd.at_int (Kd.R_reads' HO_9.out).2.2 x12_3 p113 q113; obtain rfl : ad111 = ad113 := (by injection e113); (try simp only [Go.IntWalk.toNatUp] at hx113_0); replace p113 := eq_true p113; replace q113 := eq_true q113; have p114 : 0 ≤ (x12_3 : Int) := of_decide_eq_true (by first | (with_reducible assumption) | assumption); have q114 : x12_3 < (l0.length : Int) := of_decide_eq_true (by first | (with_reducible assumption) | assumption); obtain ⟨ad114, e114, hx114_0⟩ := Kd.at_int HR0.out x12_3 p114 q114; obtain rfl : ad112 = ad114 := (by injection e114); replace hx114_0 := (HB.out.cell (World.block_lt_of_cell? w _ hx114_0)).trans hx114_0; (try simp only [Go.IntWalk.toNatUp] at hx114_0); replace p114 := eq_true p114; replace q114 := eq_true q114; have p115 : 0 ≤ (x12_3 : Int) := of_decide_eq_true (by first | (with_reducible assumption) | assumption); have q115 : x12_3 < (t107.length : Int) := of_decide_eq_true (by first | (with_reducible assumption) | assumption); obtain ⟨ad115, e115, hx115_0⟩ := Kd.at_int (Kd.R_reads' HO_9.out).2.2 x12_3 p115 q115; obtain rfl : ad111 = ad115 := (by injection e115); (try simp only [Go.IntWalk.toNatUp] at hx115_0); replace p115 := eq_true p115; replace q115 := eq_true q115; have p116 : 0 ≤ (x12_3 : Int) := of_decide_eq_true (by first | (with_reducible assumption) | assumption); have q116 : x12_3 < (l0.length : Int) := of_decide_eq_true (by first | (with_reducible assumption) | assumption); obtain ⟨ad116, e116, hx116_0⟩ := Kd.at_int HR0.out x12_3 p116 q116; obtain rfl : ad112 = ad116 := (by injection e116); replace hx116_0 := (HB.out.cell (World.block_lt_of_cell? w _ hx116_0)).trans hx116_0; (try simp only [Go.IntWalk.toNatUp] at hx116_0); replace p116 := eq_true p116; replace q116 := eq_true q116; have p117 : 0 ≤ (x12_3 : Int) := of_decide_eq_true (by first | (with_reducible assumption) | assumption); have q117 : x12_3 < (t107.length : Int) := of_decide_eq_true (by first | (with_reducible assumption) | assumption); obtain ⟨ad117, e117, hx117_0⟩ := Kd.at_int (Kd.R_reads' HO_9.out).2.2 x12_3 p117 q117; obtain rfl : ad111 = ad117 := (by injection e117); (try simp only [Go.IntWalk.toNatUp] at hx117_0); replace p117 := eq_true p117; replace q117 := eq_true q117))
                                    repeat (go_quiet (first | (go_at_call 7; (with_reducible refine (spec_At.calls _ _ l1 x12_3 t110 _ ?side1 ?side2 A22.out).mono ?_); (case side1 => repeat (first | exact (Kd.C_below HR1.out HB.out) | (with_reducible refine Kd.C_alloc ?_ _) | (with_reducible refine Kd.C_drewN ?_ _) | (with_reducible refine Kd.C_drew ?_))); (case side2 => exact HC1.out); rintro e w' ⟨rfl, ⟨nd, rfl⟩⟩; (try first | exact ⟨rfl, _, World.drewN_drewN _ _ _⟩ | exact ⟨rfl, _, Eq.trans (World.drewN_drewN _ _ _) (congrArg (World.drewN _) (Nat.add_assoc _ _ _))⟩); have p111 : 0 ≤ (x12_3 : Int) := of_decide_eq_true (by first | (with_reducible assumption) | assumption); have q111 : x12_3 < (t107.length : Int) := of_decide_eq_true (by first | (with_reducible assumption) | assumption); obtain ⟨ad111, e111, hx111_0⟩ := Kd.at_int (Kd.R_reads' HO_9.out).2.2 x12_3 p111 q111; cases e111; (try simp only [Go.IntWalk.toNatUp] at hx111_0); replace p111 := eq_true p111; replace q111 := eq_true q111; have p112 : 0 ≤ (x12_3 : Int) := of_decide_eq_true (by first | (with_reducible assumption) | assumption); have q112 : x12_3 < (l0.length : Int) := of_decide_eq_true (by first | (with_reducible assumption) | assumption); obtain ⟨ad112, e112, hx112_0⟩ := Kd.at_int HR0.out x12_3 p112 q112; cases e112; replace hx112_0 := (HB.out.cell (World.block_lt_of_cell? w _ hx112_0)).trans hx112_0; (try simp only [Go.IntWalk.toNatUp] at hx112_0); replace p112 := eq_true p112; replace q112 := eq_true q112; have p113 : 0 ≤ (x12_3 : Int) := of_decide_eq_true (by first | (with_reducible assumption) | assumption); have q113 : x12_3 < (t107.length : Int) := of_decide_eq_true (by first | (with_reducible assumption) | assumption); obtain ⟨ad113, e113, hx113_0⟩ := Kd.at_int (Kd.R_reads' HO_9.out).2.2 x12_3 p113 q113; obtain rfl : ad111 = ad113 := (by injection e113); (try simp only [Go.IntWalk.toNatUp] at hx113_0); replace p113 := eq_true p113; replace q113 := eq_true q113; have p114 : 0 ≤ (x12_3 : Int) := of_decide_eq_true (by first | (with_reducible assumption) | assumption); have q114 : x12_3 < (l0.length : Int) := of_decide_eq_true (by first | (with_reducible assumption) | assumption); obtain ⟨ad114, e114, hx114_0⟩ := Kd.at_int HR0.out x12_3 p114 q114; obtain rfl : ad112 = ad114 := (by injection e114); replace hx114_0 := (HB.out.cell (World.block_lt_of_cell? w _ hx114_0)).trans hx114_0; (try simp only [Go.IntWalk.toNatUp] at hx114_0); replace p114 := eq_true p114; replace q114 := eq_true q114; have p115 : 0 ≤ (x12_3 : Int) := of_decide_eq_true (by first | (with_reducible assumption) | assumption); have q115 : x12_3 < (t107.length : Int) := of_decide_eq_true (by first | (with_reducible assumption) | assumption); obtain ⟨ad115, e115, hx115_0⟩ := Kd.at_int (Kd.R_reads' HO_9.out).2.2 x12_3 p115 q115; obtain rfl : ad111 = ad115 := (by injection e115); (try simp only [Go.IntWalk.toNatUp] at hx115_0); replace p115 := eq_true p115; replace q115 := eq_true q115; have p116 : 0 ≤ (x12_3 : Int) := of_decide_eq_true (by first | (with_reducible assumption) | assumption); have q116 : x12_3 < (l0.length : Int) := of_decide_eq_true (by first | (with_reducible assumption) | assumption); obtain ⟨ad116, e116, hx116_0⟩ := Kd.at_int HR0.out x12_3 p116 q116; obtain rfl : ad112 = ad116 := (by injection e116); replace hx116_0 := (HB.out.cell (World.block_lt_of_cell? w _ hx116_0)).trans hx116_0; (try simp only [Go.IntWalk.toNatUp] at hx116_0); replace p116 := eq_true p116; replace q116 := eq_true q116; have p117 : 0 ≤ (x12_3 : Int) := of_decide_eq_true (by first | (with_reducible assumption) | assumption); have q117 : x12_3 < (t107.length : Int) := of_decide_eq_true (by first | (with_reducible assumption) | assumption); obtain ⟨ad117, e117, hx117_0⟩ := Kd.at_int (Kd.R_reads' HO_9.out).2.2 x12_3 p117 q117; obtain rfl : ad111 = ad117 := (by injection e117); (try simp only [Go.IntWalk.toNatUp] at hx117_0); replace p117 := eq_true p117; replace q117 := eq_true q117)); try go_wp2_with (first | (go_at_call 7; (with_reducible refine (spec_At.calls _ _ l1 x12_3 t110 _ ?side1 ?side2 A22.out).mono ?_); (case side1 => repeat (first | exact (Kd.C_below HR1.out HB.out) | (with_reducible refine Kd.C_alloc ?_ _) | (with_reducible refine Kd.C_drewN ?_ _) | (with_reducible refine Kd.C_drew ?_))); (case side2 => exact HC1.out); rintro e w' ⟨rfl, ⟨nd, rfl⟩⟩; (try first | exact ⟨rfl, _, World.drewN_drewN _ _ _⟩ | exact ⟨rfl, _, Eq.trans (World.drewN_drewN _ _ _) (congrArg (World.drewN _) (Nat.add_assoc _ _ _))⟩); have p111 : 0 ≤ (x12_3 : Int) := of_decide_eq_true (by first | (with_reducible assumption) | assumption); have q111 : x12_3 < (t107.length : Int) := of_decide_eq_true (by first | (with_reducible assumption) | assumption); obtain ⟨ad111, e111, hx111_0⟩ := Kd.at_int (Kd.R_reads' HO_9.out).2.2 x12_3 p111 q111; cases e111; (try simp only [Go.IntWalk.toNatUp] at hx111_0); replace p111 := eq_true p111; replace q111 := eq_true q111; have p112 : 0 ≤ (x12_3 : Int) := of_decide_eq_true (by first | (with_reducible assumption) | assumption); have q112 : x12_3 < (l0.length : Int) := of_decide_eq_true (by first | (with_reducible assumption) | assumption); obtain ⟨ad112, e112, hx112_0⟩ := Kd.at_int HR0.out x12_3 p112 q112; cases e112; replace hx112_0 := (HB.out.cell (World.block_lt_of_cell? w _ hx112_0)).trans hx112_0; (try simp only [Go.IntWalk.toNatUp] at hx112_0); replace p112 := eq_true p112; replace q112 := eq_true q112; have p113 : 0 ≤ (x12_3 : Int) := of_decide_eq_true (by first | (with_reducible assumption) | assumption); have q113 : x12_3 < (t107.length : Int) := of_decide_eq_true (by first | (with_reducible assumption) | assumption); obtain ⟨ad113, e113, hx113_0⟩ := Kd.at_int (Kd.R_reads' HO_9.out).2.2 x12_3 p113 q113; obtain rfl : ad111 = ad113 := (by injection e113); (try simp only [Go.IntWalk.toNatUp] at hx113_0); replace p113 := eq_true p113; replace q113 := eq_true q113; have p114 : 0 ≤ (x12_3 : Int) := of_decide_eq_true (by first | (with_reducible assumption) | assumption); have q114 : x12_3 < (l0.length : Int) := of_decide_eq_true (by first | (with_reducible assumption) | assumption); obtain ⟨ad114, e114, hx114_0⟩ := Kd.at_int HR0.out x12_3 p114 q114; obtain rfl : ad112 = ad114 := (by injection e114); replace hx114_0 := (HB.out.cell (World.block_lt_of_cell? w _ hx114_0)).trans hx114_0; (try simp only [Go.IntWalk.toNatUp] at hx114_0); replace p114 := eq_true p114; replace q114 := eq_true q114; have p115 : 0 ≤ (x12_3 : Int) := of_decide_eq_true (by first | (with_reducible assumption) | assumption); have q115 : x12_3 < (t107.length : Int) := of_decide_eq_true (by first | (with_reducible assumption) | assumption); obtain ⟨ad115, e115, hx115_0⟩ := Kd.at_int (Kd.R_reads' HO_9.out).2.2 x12_3 p115 q115; obtain rfl : ad111 = ad115 := (by injection e115); (try simp only [Go.IntWalk.toNatUp] at hx115_0); replace p115 := eq_true p115; replace q115 := eq_true q115; have p116 : 0 ≤ (x12_3 : Int) := of_decide_eq_true (by first | (with_reducible assumption) | assumption); have q116 : x12_3 < (l0.length : Int) := of_decide_eq_true (by first | (with_reducible assumption) | assumption); obtain ⟨ad116, e116, hx116_0⟩ := Kd.at_int HR0.out x12_3 p116 q116; obtain rfl : ad112 = ad116 := (by injection e116); replace hx116_0 := (HB.out.cell (World.block_lt_of_cell? w _ hx116_0)).trans hx116_0; (try simp only [Go.IntWalk.toNatUp] at hx116_0); replace p116 := eq_true p116; replace q116 := eq_true q116; have p117 : 0 ≤ (x12_3 : Int) := of_decide_eq_true (by first | (with_reducible assumption) | assumption); have q117 : x12_3 < (t107.length : Int) := of_decide_eq_true (by first | (with_reducible assumption) | assumption); obtain ⟨ad117, e117, hx117_0⟩ := Kd.at_int (Kd.R_reads' HO_9.out).2.2 x12_3 p117 q117; obtain rfl : ad111 = ad117 := (by injection e117); (try simp only [Go.IntWalk.toNatUp] at hx117_0); replace p117 := eq_true p117; replace q117 := eq_true q117)))
                                    go_roundg k3
                                    case measure => have := HJ4.out; have := HJ7.out; have := HK3.out; omega
                                    case rel => exact ⟨(wrap64 (x10_3 + (wrap64 ((rd t107 x12_3) - (rd l0 x12_3))))), (decide ((rd t107 x12_3) < t110)), (wrap64 (x12_3 + 1)), (by first | rfl | (simp; done) | (simp [*]; done)), (by first | rfl | (simp; done) | (simp [*]; done)), (by first | rfl | (simp; done) | (simp [*]; done)), H', ⟨by have := HJ4.out; have := HJ7.out; have := HK3.out; omega⟩, ⟨by (with_reducible repeat (first | apply Kd.R_alloc | apply Kd.R_drewN | apply Kd.R_drew)); exact HO_9.out⟩, ⟨by repeat (first | (with_reducible first | exact HB.out | apply below_alloc | apply pw_below_drewN | apply below_drew1) | exact HB.out)⟩⟩
                            · rw [if_neg c26] at H
                              have c26b0 : decide (0 < t110) = false := decide_eq_false c26
                              clear c26
                              by_cases c31 : x11_3 = true
                              · subst c31
                                have H1 : (laws_FnGrownCaps.l0 k3 l0 l1 a2 a3 t107 (wrap64 (x10_3 + (wrap64 ((rd t107 x12_3) - (rd l0 x12_3))))) true (wrap64 (x12_3 + 1))) = some r := by rw [if_pos rfl] at H; exact H
                                clear H
                                have H := H1
                                clear H1
                                have H' := Aside0.mk H
                                clear H
                                go_wp2_with (first | (go_at_call 7; (with_reducible refine (spec_At.calls _ _ l1 x12_3 t110 _ ?side1 ?side2 A22.out).mono ?_); (case side1 => repeat (first | exact (Kd.C_below HR1.out HB.out) | (with_reducible refine Kd.C_alloc ?_ _) | (with_reducible refine Kd.C_drewN ?_ _) | (with_reducible refine Kd.C_drew ?_))); (case side2 => exact HC1.out); rintro e w' ⟨rfl, ⟨nd, rfl⟩⟩; (try first | exact ⟨rfl, _, World.drewN_drewN _ _ _⟩ | exact ⟨rfl, _, Eq.trans (World.drewN_drewN _ _ _) (congrArg (World.drewN _) (Nat.add_assoc _ _ _))⟩); have p111 : 0 ≤ (x12_3 : Int) := of_decide_eq_true (by first | (with_reducible assumption) | assumption); have q111 : x12_3 < (t107.length : Int) := of_decide_eq_true (by first | (with_reducible assumption) | assumption); obtain ⟨ad111, e111, hx111_0⟩ := Kd.at_int (Kd.R_reads' HO_9.out).2.2 x12_3 p111 q111; cases e111; (try simp only [Go.IntWalk.toNatUp] at hx111_0); replace p111 := eq_true p111; replace q111 := eq_true q111; have p112 : 0 ≤ (x12_3 : Int) := of_decide_eq_true (by first | (with_reducible assumption) | assumption); have q112 : x12_3 < (l0.length : Int) := of_decide_eq_true (by first | (with_reducible assumption) | assumption); obtain ⟨ad112, e112, hx112_0⟩ := Kd.at_int HR0.out x12_3 p112 q112; cases e112; replace hx112_0 := (HB.out.cell (World.block_lt_of_cell? w _ hx112_0)).trans hx112_0; (try simp only [Go.IntWalk.toNatUp] at hx112_0); replace p112 := eq_true p112; replace q112 := eq_true q112; have p118 : 0 ≤ (x12_3 : Int) := of_decide_eq_true (by first | (with_reducible assumption) | assumption); have q118 : x12_3 < (t107.length : Int) := of_decide_eq_true (by first | (with_reducible assumption) | assumption); obtain ⟨ad118, e118, hx118_0⟩ := Kd.at_int (Kd.R_reads' HO_9.out).2.2 x12_3 p118 q118; obtain rfl : ad111 = ad118 := (by injection e118); (try simp only [Go.IntWalk.toNatUp] at hx118_0); replace p118 := eq_true p118; replace q118 := eq_true q118; have p119 : 0 ≤ (x12_3 : Int) := of_decide_eq_true (by first | (with_reducible assumption) | assumption); have q119 : x12_3 < (l0.length : Int) := of_decide_eq_true (by first | (with_reducible assumption) | assumption); obtain ⟨ad119, e119, hx119_0⟩ := Kd.at_int HR0.out x12_3 p119 q119; obtain rfl : ad112 = ad119 := (by injection e119); replace hx119_0 := (HB.out.cell (World.block_lt_of_cell? w _ hx119_0)).trans hx119_0; (try simp only [Go.IntWalk.toNatUp] at hx119_0); replace p119 := eq_true p119; replace q119 := eq_true q119))
                                repeat (go_quiet (first | (go_at_call 7; (with_reducible refine (spec_At.calls _ _ l1 x12_3 t110 _ ?side1 ?side2 A22.out).mono ?_); (case side1 => repeat (first | exact (Kd.C_below HR1.out HB.out) | (with_reducible refine Kd.C_alloc ?_ _) | (with_reducible refine Kd.C_drewN ?_ _) | (with_reducible refine Kd.C_drew ?_))); (case side2 => exact HC1.out); rintro e w' ⟨rfl, ⟨nd, rfl⟩⟩; (try first | exact ⟨rfl, _, World.drewN_drewN _ _ _⟩ | exact ⟨rfl, _, Eq.trans (World.drewN_drewN _ _ _) (congrArg (World.drewN _) (Nat.add_assoc _ _ _))⟩); have p111 : 0 ≤ (x12_3 : Int) := of_decide_eq_true (by first | (with_reducible assumption) | assumption); have q111 : x12_3 < (t107.length : Int) := of_decide_eq_true (by first | (with_reducible assumption) | assumption); obtain ⟨ad111, e111, hx111_0⟩ := Kd.at_int (Kd.R_reads' HO_9.out).2.2 x12_3 p111 q111; cases e111; (try simp only [Go.IntWalk.toNatUp] at hx111_0); replace p111 := eq_true p111; replace q111 := eq_true q111; have p112 : 0 ≤ (x12_3 : Int) := of_decide_eq_true (by first | (with_reducible assumption) | assumption); have q112 : x12_3 < (l0.length : Int) := of_decide_eq_true (by first | (with_reducible assumption) | assumption); obtain ⟨ad112, e112, hx112_0⟩ := Kd.at_int HR0.out x12_3 p112 q112; cases e112; replace hx112_0 := (HB.out.cell (World.block_lt_of_cell? w _ hx112_0)).trans hx112_0; (try simp only [Go.IntWalk.toNatUp] at hx112_0); replace p112 := eq_true p112; replace q112 := eq_true q112; have p118 : 0 ≤ (x12_3 : Int) := of_decide_eq_true (by first | (with_reducible assumption) | assumption); have q118 : x12_3 < (t107.length : Int) := of_decide_eq_true (by first | (with_reducible assumption) | assumption); obtain ⟨ad118, e118, hx118_0⟩ := Kd.at_int (Kd.R_reads' HO_9.out).2.2 x12_3 p118 q118; obtain rfl : ad111 = ad118 := (by injection e118); (try simp only [Go.IntWalk.toNatUp] at hx118_0); replace p118 := eq_true p118; replace q118 := eq_true q118; have p119 : 0 ≤ (x12_3 : Int) := of_decide_eq_true (by first | (with_reducible assumption) | assumption); have q119 : x12_3 < (l0.length : Int) := of_decide_eq_true (by first | (with_reducible assumption) | assumption); obtain ⟨ad119, e119, hx119_0⟩ := Kd.at_int HR0.out x12_3 p119 q119; obtain rfl : ad112 = ad119 := (by injection e119); replace hx119_0 := (HB.out.cell (World.block_lt_of_cell? w _ hx119_0)).trans hx119_0; (try simp only [Go.IntWalk.toNatUp] at hx119_0); replace p119 := eq_true p119; replace q119 := eq_true q119)); try go_wp2_with (first | (go_at_call 7; (with_reducible refine (spec_At.calls _ _ l1 x12_3 t110 _ ?side1 ?side2 A22.out).mono ?_); (case side1 => repeat (first | exact (Kd.C_below HR1.out HB.out) | (with_reducible refine Kd.C_alloc ?_ _) | (with_reducible refine Kd.C_drewN ?_ _) | (with_reducible refine Kd.C_drew ?_))); (case side2 => exact HC1.out); rintro e w' ⟨rfl, ⟨nd, rfl⟩⟩; (try first | exact ⟨rfl, _, World.drewN_drewN _ _ _⟩ | exact ⟨rfl, _, Eq.trans (World.drewN_drewN _ _ _) (congrArg (World.drewN _) (Nat.add_assoc _ _ _))⟩); have p111 : 0 ≤ (x12_3 : Int) := of_decide_eq_true (by first | (with_reducible assumption) | assumption); have q111 : x12_3 < (t107.length : Int) := of_decide_eq_true (by first | (with_reducible assumption) | assumption); obtain ⟨ad111, e111, hx111_0⟩ := Kd.at_int (Kd.R_reads' HO_9.out).2.2 x12_3 p111 q111; cases e111; (try simp only [Go.IntWalk.toNatUp] at hx111_0); replace p111 := eq_true p111; replace q111 := eq_true q111; have p112 : 0 ≤ (x12_3 : Int) := of_decide_eq_true (by first | (with_reducible assumption) | assumption); have q112 : x12_3 < (l0.length : Int) := of_decide_eq_true (by first | (with_reducible assumption) | assumption); obtain ⟨ad112, e112, hx112_0⟩ := Kd.at_int HR0.out x12_3 p112 q112; cases e112; replace hx112_0 := (HB.out.cell (World.block_lt_of_cell? w _ hx112_0)).trans hx112_0; (try simp only [Go.IntWalk.toNatUp] at hx112_0); replace p112 := eq_true p112; replace q112 := eq_true q112; have p118 : 0 ≤ (x12_3 : Int) := of_decide_eq_true (by first | (with_reducible assumption) | assumption); have q118 : x12_3 < (t107.length : Int) := of_decide_eq_true (by first | (with_reducible assumption) | assumption); obtain ⟨ad118, e118, hx118_0⟩ := Kd.at_int (Kd.R_reads' HO_9.out).2.2 x12_3 p118 q118; obtain rfl : ad111 = ad118 := (by injection e118); (try simp only [Go.IntWalk.toNatUp] at hx118_0); replace p118 := eq_true p118; replace q118 := eq_true q118; have p119 : 0 ≤ (x12_3 : Int) := of_decide_eq_true (by first | (with_reducible assumption) | assumption); have q119 : x12_3 < (l0.length : Int) := of_decide_eq_true (by first | (with_reducible assumption) | assumption); obtain ⟨ad119, e119, hx119_0⟩ := Kd.at_int HR0.out x12_3 p119 q119; obtain rfl : ad112 = ad119 := (by injection e119); replace hx119_0 := (HB.out.cell (World.block_lt_of_cell? w _ hx119_0)).trans hx119_0; (try simp only [Go.IntWalk.toNatUp] at hx119_0); replace p119 := eq_true p119; replace q119 := eq_true q119)))
                                go_roundg k3
                                case measure => have := HJ4.out; have := HJ7.out; have := HK3.out; omega
                                case rel => exact ⟨(wrap64 (x10_3 + (wrap64 ((rd t107 x12_3) - (rd l0 x12_3))))), (true), (wrap64 (x12_3 + 1)), (by first | rfl | (simp; done) | (simp [*]; done)), (by first | rfl | (simp; done) | (simp [*]; done)), (by first | rfl | (simp; done) | (simp [*]; done)), H', ⟨by have := HJ4.out; have := HJ7.out; have := HK3.out; omega⟩, ⟨by (with_reducible repeat (first | apply Kd.R_alloc | apply Kd.R_drewN | apply Kd.R_drew)); exact HO_9.out⟩, ⟨by repeat (first | (with_reducible first | exact HB.out | apply below_alloc | apply pw_below_drewN | apply below_drew1) | exact HB.out)⟩⟩
                              · replace c31 := Bool.eq_false_iff.mpr c31
                                subst c31
                                have H1 : (if t110 = 0 then (laws_FnGrownCaps.l0 k3 l0 l1 a2 a3 t107 (wrap64 (x10_3 + (wrap64 ((rd t107 x12_3) - (rd l0 x12_3))))) true (wrap64 (x12_3 + 1))) else (laws_FnGrownCaps.l0 k3 l0 l1 a2 a3 t107 (wrap64 (x10_3 + (wrap64 ((rd t107 x12_3) - (rd l0 x12_3))))) (decide ((rd t107 x12_3) < t110)) (wrap64 (x12_3 + 1)))) = some r := by rw [if_neg (show ¬ (false = true) by decide)] at H; exact H
                                clear H
                                have H := H1
                                clear H1
                                by_cases c32 : t110 = 0
                                · rw [if_pos c32] at H
                                  have c32b0 : (t110 == 0) = true := beq_iff_eq.mpr c32
                                  have c32b1 : (t110 != 0) = false := bne_eq_false_iff_eq.mpr c32
                                  clear c32
                                  have H' := Aside0.mk H
                                  clear H
                                  go_wp2_with (first | (go_at_call 7; (with_reducible refine (spec_At.calls _ _ l1 x12_3 t110 _ ?side1 ?side2 A22.out).mono ?_); (case side1 => repeat (first | exact (Kd.C_below HR1.out HB.out) | (with_reducible refine Kd.C_alloc ?_ _) | (with_reducible refine Kd.C_drewN ?_ _) | (with_reducible refine Kd.C_drew ?_))); (case side2 => exact HC1.out); rintro e w' ⟨rfl, ⟨nd, rfl⟩⟩; (try first | exact ⟨rfl, _, World.drewN_drewN _ _ _⟩ | exact ⟨rfl, _, Eq.trans (World.drewN_drewN _ _ _) (congrArg (World.drewN _) (Nat.add_assoc _ _ _))⟩); have p111 : 0 ≤ (x12_3 : Int) := of_decide_eq_true (by first | (with_reducible assumption) | assumption); have q111 : x12_3 < (t107.length : Int) := of_decide_eq_true (by first | (with_reducible assumption) | assumption); obtain ⟨ad111, e111, hx111_0⟩ := Kd.at_int (Kd.R_reads' HO_9.out).2.2 x12_3 p111 q111; cases e111; (try simp only [Go.IntWalk.toNatUp] at hx111_0); replace p111 := eq_true p111; replace q111 := eq_true q111; have p112 : 0 ≤ (x12_3 : Int) := of_decide_eq_true (by first | (with_reducible assumption) | assumption); have q112 : x12_3 < (l0.length : Int) := of_decide_eq_true (by first | (with_reducible assumption) | assumption); obtain ⟨ad112, e112, hx112_0⟩ := Kd.at_int HR0.out x12_3 p112 q112; cases e112; replace hx112_0 := (HB.out.cell (World.block_lt_of_cell? w _ hx112_0)).trans hx112_0; (try simp only [Go.IntWalk.toNatUp] at hx112_0); replace p112 := eq_true p112; replace q112 := eq_true q112; have p118 : 0 ≤ (x12_3 : Int) := of_decide_eq_true (by first | (with_reducible assumption) | assumption); have q118 : x12_3 < (t107.length : Int) := of_decide_eq_true (by first | (with_reducible assumption) | assumption); obtain ⟨ad118, e118, hx118_0⟩ := Kd.at_int (Kd.R_reads' HO_9.out).2.2 x12_3 p118 q118; obtain rfl : ad111 = ad118 := (by injection e118); (try simp only [Go.IntWalk.toNatUp] at hx118_0); replace p118 := eq_true p118; replace q118 := eq_true q118; have p119 : 0 ≤ (x12_3 : Int) := of_decide_eq_true (by first | (with_reducible assumption) | assumption); have q119 : x12_3 < (l0.length : Int) := of_decide_eq_true (by first | (with_reducible assumption) | assumption); obtain ⟨ad119, e119, hx119_0⟩ := Kd.at_int HR0.out x12_3 p119 q119; obtain rfl : ad112 = ad119 := (by injection e119); replace hx119_0 := (HB.out.cell (World.block_lt_of_cell? w _ hx119_0)).trans hx119_0; (try simp only [Go.IntWalk.toNatUp] at hx119_0); replace p119 := eq_true p119; replace q119 := eq_true q119))
                                  repeat (go_quiet (first | (go_at_call 7; (with_reducible refine (spec_At.calls _ _ l1 x12_3 t110 _ ?side1 ?side2 A22.out).mono ?_); (case side1 => repeat (first | exact (Kd.C_below HR1.out HB.out) | (with_reducible refine Kd.C_alloc ?_ _) | (with_reducible refine Kd.C_drewN ?_ _) | (with_reducible refine Kd.C_drew ?_))); (case side2 => exact HC1.out); rintro e w' ⟨rfl, ⟨nd, rfl⟩⟩; (try first | exact ⟨rfl, _, World.drewN_drewN _ _ _⟩ | exact ⟨rfl, _, Eq.trans (World.drewN_drewN _ _ _) (congrArg (World.drewN _) (Nat.add_assoc _ _ _))⟩); have p111 : 0 ≤ (x12_3 : Int) := of_decide_eq_true (by first | (with_reducible assumption) | assumption); have q111 : x12_3 < (t107.length : Int) := of_decide_eq_true (by first | (with_reducible assumption) | assumption); obtain ⟨ad111, e111, hx111_0⟩ := Kd.at_int (Kd.R_reads' HO_9.out).2.2 x12_3 p111 q111; cases e111; (try simp only [Go.IntWalk.toNatUp] at hx111_0); replace p111 := eq_true p111; replace q111 := eq_true q111; have p112 : 0 ≤ (x12_3 : Int) := of_decide_eq_true (by first | (with_reducible assumption) | assumption); have q112 : x12_3 < (l0.length : Int) := of_decide_eq_true (by first | (with_reducible assumption) | assumption); obtain ⟨ad112, e112, hx112_0⟩ := Kd.at_int HR0.out x12_3 p112 q112; cases e112; replace hx112_0 := (HB.out.cell (World.block_lt_of_cell? w _ hx112_0)).trans hx112_0; (try simp only [Go.IntWalk.toNatUp] at hx112_0); replace p112 := eq_true p112; replace q112 := eq_true q112; have p118 : 0 ≤ (x12_3 : Int) := of_decide_eq_true (by first | (with_reducible assumption) | assumption); have q118 : x12_3 < (t107.length : Int) := of_decide_eq_true (by first | (with_reducible assumption) | assumption); obtain ⟨ad118, e118, hx118_0⟩ := Kd.at_int (Kd.R_reads' HO_9.out).2.2 x12_3 p118 q118; obtain rfl : ad111 = ad118 := (by injection e118); (try simp only [Go.IntWalk.toNatUp] at hx118_0); replace p118 := eq_true p118; replace q118 := eq_true q118; have p119 : 0 ≤ (x12_3 : Int) := of_decide_eq_true (by first | (with_reducible assumption) | assumption); have q119 : x12_3 < (l0.length : Int) := of_decide_eq_true (by first | (with_reducible assumption) | assumption); obtain ⟨ad119, e119, hx119_0⟩ := Kd.at_int HR0.out x12_3 p119 q119; obtain rfl : ad112 = ad119 := (by injection e119); replace hx119_0 := (HB.out.cell (World.block_lt_of_cell? w _ hx119_0)).trans hx119_0; (try simp only [Go.IntWalk.toNatUp] at hx119_0); replace p119 := eq_true p119; replace q119 := eq_true q119)); try go_wp2_with (first | (go_at_call 7; (with_reducible refine (spec_At.calls _ _ l1 x12_3 t110 _ ?side1 ?side2 A22.out).mono ?_); (case side1 => repeat (first | exact (Kd.C_below HR1.out HB.out) | (with_reducible refine Kd.C_alloc ?_ _) | (with_reducible refine Kd.C_drewN ?_ _) | (with_reducible refine Kd.C_drew ?_))); (case side2 => exact HC1.out); rintro e w' ⟨rfl, ⟨nd, rfl⟩⟩; (try first | exact ⟨rfl, _, World.drewN_drewN _ _ _⟩ | exact ⟨rfl, _, Eq.trans (World.drewN_drewN _ _ _) (congrArg (World.drewN _) (Nat.add_assoc _ _ _))⟩); have p111 : 0 ≤ (x12_3 : Int) := of_decide_eq_true (by first | (with_reducible assumption) | assumption); have q111 : x12_3 < (t107.length : Int) := of_decide_eq_true (by first | (with_reducible assumption) | assumption); obtain ⟨ad111, e111, hx111_0⟩ := Kd.at_int (Kd.R_reads' HO_9.out).2.2 x12_3 p111 q111; cases e111; (try simp only [Go.IntWalk.toNatUp] at hx111_0); replace p111 := eq_true p111; replace q111 := eq_true q111; have p112 : 0 ≤ (x12_3 : Int) := of_decide_eq_true (by first | (with_reducible assumption) | assumption); have q112 : x12_3 < (l0.length : Int) := of_decide_eq_true (by first | (with_reducible assumption) | assumption); obtain ⟨ad112, e112, hx112_0⟩ := Kd.at_int HR0.out x12_3 p112 q112; cases e112; replace hx112_0 := (HB.out.cell (World.block_lt_of_cell? w _ hx112_0)).trans hx112_0; (try simp only [Go.IntWalk.toNatUp] at hx112_0); replace p112 := eq_true p112; replace q112 := eq_true q112; have p118 : 0 ≤ (x12_3 : Int) := of_decide_eq_true (by first | (with_reducible assumption) | assumption); have q118 : x12_3 < (t107.length : Int) := of_decide_eq_true (by first | (with_reducible assumption) | assumption); obtain ⟨ad118, e118, hx118_0⟩ := Kd.at_int (Kd.R_reads' HO_9.out).2.2 x12_3 p118 q118; obtain rfl : ad111 = ad118 := (by injection e118); (try simp only [Go.IntWalk.toNatUp] at hx118_0); replace p118 := eq_true p118; replace q118 := eq_true q118; have p119 : 0 ≤ (x12_3 : Int) := of_decide_eq_true (by first | (with_reducible assumption) | assumption); have q119 : x12_3 < (l0.length : Int) := of_decide_eq_true (by first | (with_reducible assumption) | assumption); obtain ⟨ad119, e119, hx119_0⟩ := Kd.at_int HR0.out x12_3 p119 q119; obtain rfl : ad112 = ad119 := (by injection e119); replace hx119_0 := (HB.out.cell (World.block_lt_of_cell? w _ hx119_0)).trans hx119_0; (try simp only [Go.IntWalk.toNatUp] at hx119_0); replace p119 := eq_true p119; replace q119 := eq_true q119)))
                                  go_roundg k3
                                  case measure => have := HJ4.out; have := HJ7.out; have := HK3.out; omega
                                  case rel => exact ⟨(wrap64 (x10_3 + (wrap64 ((rd t107 x12_3) - (rd l0 x12_3))))), (true), (wrap64 (x12_3 + 1)), (by first | rfl | (simp; done) | (simp [*]; done)), (by first | rfl | (simp; done) | (simp [*]; done)), (by first | rfl | (simp; done) | (simp [*]; done)), H', ⟨by have := HJ4.out; have := HJ7.out; have := HK3.out; omega⟩, ⟨by (with_reducible repeat (first | apply Kd.R_alloc | apply Kd.R_drewN | apply Kd.R_drew)); exact HO_9.out⟩, ⟨by repeat (first | (with_reducible first | exact HB.out | apply below_alloc | apply pw_below_drewN | apply below_drew1) | exact HB.out)⟩⟩
                                · rw [if_neg c32] at H
                                  have c32b0 : (t110 == 0) = false := beq_eq_false_iff_ne.mpr c32
                                  have c32b1 : (t110 != 0) = true := bne_iff_ne.mpr c32
                                  have H' := Aside0.mk H
                                  clear H
                                  go_wp2_with (first | (go_at_call 7; (with_reducible refine (spec_At.calls _ _ l1 x12_3 t110 _ ?side1 ?side2 A22.out).mono ?_); (case side1 => repeat (first | exact (Kd.C_below HR1.out HB.out) | (with_reducible refine Kd.C_alloc ?_ _) | (with_reducible refine Kd.C_drewN ?_ _) | (with_reducible refine Kd.C_drew ?_))); (case side2 => exact HC1.out); rintro e w' ⟨rfl, ⟨nd, rfl⟩⟩; (try first | exact ⟨rfl, _, World.drewN_drewN _ _ _⟩ | exact ⟨rfl, _, Eq.trans (World.drewN_drewN _ _ _) (congrArg (World.drewN _) (Nat.add_assoc _ _ _))⟩); have p111 : 0 ≤ (x12_3 : Int) := of_decide_eq_true (by first | (with_reducible assumption) | assumption); have q111 : x12_3 < (t107.length : Int) := of_decide_eq_true (by first | (with_reducible assumption) | assumption); obtain ⟨ad111, e111, hx111_0⟩ := Kd.at_int (Kd.R_reads' HO_9.out).2.2 x12_3 p111 q111; cases e111; (try simp only [Go.IntWalk.toNatUp] at hx111_0); replace p111 := eq_true p111; replace q111 := eq_true q111; have p112 : 0 ≤ (x12_3 : Int) := of_decide_eq_true (by first | (with_reducible assumption) | assumption); have q112 : x12_3 < (l0.length : Int) := of_decide_eq_true (by first | (with_reducible assumption) | assumption); obtain ⟨ad112, e112, hx112_0⟩ := Kd.at_int HR0.out x12_3 p112 q112; cases e112; replace hx112_0 := (HB.out.cell (World.block_lt_of_cell? w _ hx112_0)).trans hx112_0; (try simp only [Go.IntWalk.toNatUp] at hx112_0); replace p112 := eq_true p112; replace q112 := eq_true q112; have p118 : 0 ≤ (x12_3 : Int) := of_decide_eq_true (by first | (with_reducible assumption) | assumption); have q118 : x12_3 < (t107.length : Int) := of_decide_eq_true (by first | (with_reducible assumption) | assumption); obtain ⟨ad118, e118, hx118_0⟩ := Kd.at_int (Kd.R_reads' HO_9.out).2.2 x12_3 p118 q118; obtain rfl : ad111 = ad118 := (by injection e118); (try simp only [Go.IntWalk.toNatUp] at hx118_0); replace p118 := eq_true p118; replace q118 := eq_true q118; have p119 : 0 ≤ (x12_3 : Int) := of_decide_eq_true (by first | (with_reducible assumption) | assumption); have q119 : x12_3 < (l0.length : Int) := of_decide_eq_true (by first | (with_reducible assumption) | assumption); obtain ⟨ad119, e119, hx119_0⟩ := Kd.at_int HR0.out x12_3 p119 q119; obtain rfl : ad112 = ad119 := (by injection e119); replace hx119_0 := (HB.out.cell (World.block_lt_of_cell? w _ hx119_0)).trans hx119_0; (try simp only [Go.IntWalk.toNatUp] at hx119_0); replace p119 := eq_true p119; replace q119 := eq_true q119; have p120 : 0 ≤ (x12_3 : Int) := of_decide_eq_true (by first | (with_reducible assumption) | assumption); have q120 : x12_3 < (t107.length : Int) := of_decide_eq_true (by first | (with_reducible assumption) | assumption); obtain ⟨ad120, e120, hx120_0⟩ := Kd.at_int (Kd.R_reads' HO_9.out).2.2 x12_3 p120 q120; obtain rfl : ad111 = ad120 := (by injection e120); (try simp only [Go.IntWalk.toNatUp] at hx120_0); replace p120 := eq_true p120; replace q120 := eq_true q120))
                                  repeat (go_quiet (first | (go_at_call 7; (with_reducible refine (spec_At.calls _ _ l1 x12_3 t110 _ ?side1 ?side2 A22.out).mono ?_); (case side1 => repeat (first | exact (Kd.C_below HR1.out HB.out) | (with_reducible refine Kd.C_alloc ?_ _) | (with_reducible refine Kd.C_drewN ?_ _) | (with_reducible refine Kd.C_drew ?_))); (case side2 => exact HC1.out); rintro e w' ⟨rfl, ⟨nd, rfl⟩⟩; (try first | exact ⟨rfl, _, World.drewN_drewN _ _ _⟩ | exact ⟨rfl, _, Eq.trans (World.drewN_drewN _ _ _) (congrArg (World.drewN _) (Nat.add_assoc _ _ _))⟩); have p111 : 0 ≤ (x12_3 : Int) := of_decide_eq_true (by first | (with_reducible assumption) | assumption); have q111 : x12_3 < (t107.length : Int) := of_decide_eq_true (by first | (with_reducible assumption) | assumption); obtain ⟨ad111, e111, hx111_0⟩ := Kd.at_int (Kd.R_reads' HO_9.out).2.2 x12_3 p111 q111; cases e111; (try simp only [Go.IntWalk.toNatUp] at hx111_0); replace p111 := eq_true p111; replace q111 := eq_true q111; have p112 : 0 ≤ (x12_3 : Int) := of_decide_eq_true (by first | (with_reducible assumption) | assumption); have q112 : x12_3 < (l0.length : Int) := of_decide_eq_true (by first | (with_reducible assumption) | assumption); obtain ⟨ad112, e112, hx112_0⟩ := Kd.at_int HR0.out x12_3 p112 q112; cases e112; replace hx112_0 := (HB.out.cell (World.block_lt_of_cell? w _ hx112_0)).trans hx112_0; (try simp only [Go.IntWalk.toNatUp] at hx112_0); replace p112 := eq_true p112; replace q112 := eq_true q112; have p118 : 0 ≤ (x12_3 : Int) := of_decide_eq_true (by first | (with_reducible assumption) | assumption); have q118 : x12_3 < (t107.length : Int) := of_decide_eq_true (by first | (with_reducible assumption) | assumption); obtain ⟨ad118, e118, hx118_0⟩ := Kd.at_int (Kd.R_reads' HO_9.out).2.2 x12_3 p118 q118; obtain rfl : ad111 = ad118 := (by injection e118); (try simp only [Go.IntWalk.toNatUp] at hx118_0); replace p118 := eq_true p118; replace q118 := eq_true q118; have p119 : 0 ≤ (x12_3 : Int) := of_decide_eq_true (by first | (with_reducible assumption) | assumption); have q119 : x12_3 < (l0.length : Int) := of_decide_eq_true (by first | (with_reducible assumption) | assumption); obtain ⟨ad119, e119, hx119_0⟩ := Kd.at_int HR0.out x12_3 p119 q119; obtain rfl : ad112 = ad119 := (by injection e119); replace hx119_0 := (HB.out.cell (World.block_lt_of_cell? w _ hx119_0)).trans hx119_0; (try simp only [Go.IntWalk.toNatUp] at hx119_0); replace p119 := eq_true p119; replace q119 := eq_true q119; have p120 : 0 ≤ (x12_3 : Int) := of_decide_eq_true (by first | (with_reducible assumption) | assumption); have q120 : x12_3 < (t107.length : Int) := of_decide_eq_true (by first | (with_reducible assumption) | assumption); obtain ⟨ad120, e120, hx120_0⟩ := Kd.at_int (Kd.R_reads' HO_9.out).2.2 x12_3 p120 q120; obtain rfl : ad111 = ad120 := (by injection e120); (try simp only [Go.IntWalk.toNatUp] at hx120_0); replace p120 := eq_true p120; replace q120 := eq_true q120)); try go_wp2_with (first | (go_at_call 7; (with_reducible refine (spec_At.calls _ _ l1 x12_3 t110 _ ?side1 ?side2 A22.out).mono ?_); (case side1 => repeat (first | exact (Kd.C_below HR1.out HB.out) | (with_reducible refine Kd.C_alloc ?_ _) | (with_reducible refine Kd.C_drewN ?_ _) | (with_reducible refine Kd.C_drew ?_))); (case side2 => exact HC1.out); rintro e w' ⟨rfl, ⟨nd, rfl⟩⟩; (try first | exact ⟨rfl, _, World.drewN_drewN _ _ _⟩ | exact ⟨rfl, _, Eq.trans (World.drewN_drewN _ _ _) (congrArg (World.drewN _) (Nat.add_assoc _ _ _))⟩); have p111 : 0 ≤ (x12_3 : Int) := of_decide_eq_true (by first | (with_reducible assumption) | assumption); have q111 : x12_3 < (t107.length : Int) := of_decide_eq_true (by first | (with_reducible assumption) | assumption); obtain ⟨ad111, e111, hx111_0⟩ := Kd.at_int (Kd.R_reads' HO_9.out).2.2 x12_3 p111 q111; cases e111; (try simp only [Go.IntWalk.toNatUp] at hx111_0); replace p111 := eq_true p111; replace q111 := eq_true q111; have p112 : 0 ≤ (x12_3 : Int) := of_decide_eq_true (by first | (with_reducible assumption) | assumption); have q112 : x12_3 < (l0.length : Int) := of_decide_eq_true (by first | (with_reducible assumption) | assumption); obtain ⟨ad112, e112, hx112_0⟩ := Kd.at_int HR0.out x12_3 p112 q112; cases e112; replace hx112_0 := (HB.out.cell (World.block_lt_of_cell? w _ hx112_0)).trans hx112_0; (try simp only [Go.IntWalk.toNatUp] at hx112_0); replace p112 := eq_true p112; replace q112 := eq_true q112; have p118 : 0 ≤ (x12_3 : Int) := of_decide_eq_true (by first | (with_reducible assumption) | assumption); have q118 : x12_3 < (t107.length : Int) := of_decide_eq_true (by first | (with_reducible assumption) | assumption); obtain ⟨ad118, e118, hx118_0⟩ := Kd.at_int (Kd.R_reads' HO_9.out).2.2 x12_3 p118 q118; obtain rfl : ad111 = ad118 := (by injection e118); (try simp only [Go.IntWalk.toNatUp] at hx118_0); replace p118 := eq_true p118; replace q118 := eq_true q118; have p119 : 0 ≤ (x12_3 : Int) := of_decide_eq_true (by first | (with_reducible assumption) | assumption); have q119 : x12_3 < (l0.length : Int) := of_decide_eq_true (by first | (with_reducible assumption) | assumption); obtain ⟨ad119, e119, hx119_0⟩ := Kd.at_int HR0.out x12_3 p119 q119; obtain rfl : ad112 = ad119 := (by injection e119); replace hx119_0 := (HB.out.cell (World.block_lt_of_cell? w _ hx119_0)).trans hx119_0; (try simp only [Go.IntWalk.toNatUp] at hx119_0); replace p119 := eq_true p119; replace q119 := eq_true q119; have p120 : 0 ≤ (x12_3 : Int) := of_decide_eq_true (by first | (with_reducible assumption) | assumption); have q120 : x12_3 < (t107.length : Int) := of_decide_eq_true (by first | (with_reducible assumption) | assumption); obtain ⟨ad120, e120, hx120_0⟩ := Kd.at_int (Kd.R_reads' HO_9.out).2.2 x12_3 p120 q120; obtain rfl : ad111 = ad120 := (by injection e120); (try simp only [Go.IntWalk.toNatUp] at hx120_0); replace p120 := eq_true p120; replace q120 := eq_true q120)))
                                  go_roundg k3
                                  case measure => have := HJ4.out; have := HJ7.out; have := HK3.out; omega
                                  case rel => exact ⟨(wrap64 (x10_3 + (wrap64 ((rd t107 x12_3) - (rd l0 x12_3))))), (decide ((rd t107 x12_3) < t110)), (wrap64 (x12_3 + 1)), (by first | rfl | (simp; done) | (simp [*]; done)), (by first | rfl | (simp; done) | (simp [*]; done)), (by first | rfl | (simp; done) | (simp [*]; done)), H', ⟨by have := HJ4.out; have := HJ7.out; have := HK3.out; omega⟩, ⟨by (with_reducible repeat (first | apply Kd.R_alloc | apply Kd.R_drewN | apply Kd.R_drew)); exact HO_9.out⟩, ⟨by repeat (first | (with_reducible first | exact HB.out | apply below_alloc | apply pw_below_drewN | apply below_drew1) | exact HB.out)⟩⟩
                        · rw [if_neg c24] at H
                          exact absurd H (by simp)
                      · rw [if_neg c23] at H
                        exact absurd H (by simp)
                    · rw [if_neg c21] at H
                      have c21b0 : decide (x12_3 < (t107.length : Int)) = false := decide_eq_false c21
                      clear c21
                      obtain ⟨ji33, hji33⟩ : ∃ j_ : Int, (mx 0 (wrap64 (a3 - a2))) = j_ := ⟨_, rfl⟩
                      replace H : (if x10_3 = (ji33) then (some true) else (if x10_3 < (wrap64 (a3 - a2)) then (some (!x11_3)) else (some false))) = some r := by first | (rw [hji33] at H; exact H) | (simp only [hji33] at H ⊢; exact H)
                      have hji33_ : (if 0 < (wrap64 (a3 - a2)) then (wrap64 (a3 - a2)) else 0) = ji33 := hji33
                      by_cases c34 : x10_3 = (ji33)
                      · rw [if_pos c34] at H
                        have c34b0 : (x10_3 == (ji33)) = true := beq_iff_eq.mpr c34
                        have c34b1 : (x10_3 != (ji33)) = false := bne_eq_false_iff_eq.mpr c34
                        clear c34
                        obtain rfl := Option.some.inj H
                        go_wp2
                        repeat (go_quiet (fail); try go_wp2)
                        go_ret
                        exact ⟨by first | rfl | (simp [errW_none, errW_some] <;> rfl) | (simp only [← hji33]; first | rfl | (simp [errW_none, errW_some] <;> rfl)) | (simp [*, errW_none, errW_some] <;> rfl), by repeat (first | (with_reducible first | exact HB.out | apply below_alloc | apply pw_below_drewN | apply below_drew1) | exact HB.out)⟩
                      · rw [if_neg c34] at H
                        have c34b0 : (x10_3 == (ji33)) = false := beq_eq_false_iff_ne.mpr c34
                        have c34b1 : (x10_3 != (ji33)) = true := bne_iff_ne.mpr c34
                        by_cases c35 : x10_3 < (wrap64 (a3 - a2))
                        · rw [if_pos c35] at H
                          have c35b0 : decide (x10_3 < (wrap64 (a3 - a2))) = true := decide_eq_true c35
                          clear c35
                          obtain rfl := Option.some.inj H
                          go_wp2
                          repeat (go_quiet (fail); try go_wp2)
                          go_ret
                          exact ⟨by first | rfl | (simp [errW_none, errW_some] <;> rfl) | (simp only [← hji33]; first | rfl | (simp [errW_none, errW_some] <;> rfl)) | (simp [*, errW_none, errW_some] <;> rfl), by repeat (first | (with_reducible first | exact HB.out | apply below_alloc | apply pw_below_drewN | apply below_drew1) | exact HB.out)⟩
                        · rw [if_neg c35] at H
                          have c35b0 : decide (x10_3 < (wrap64 (a3 - a2))) = false := decide_eq_false c35
                          clear c35
                          obtain rfl := Option.some.inj H
                          go_wp2
                          repeat (go_quiet (fail); try go_wp2)
                          go_ret
                          exact ⟨by first | rfl | (simp [errW_none, errW_some] <;> rfl) | (simp only [← hji33]; first | rfl | (simp [errW_none, errW_some] <;> rfl)) | (simp [*, errW_none, errW_some] <;> rfl), by repeat (first | (with_reducible first | exact HB.out | apply below_alloc | apply pw_below_drewN | apply below_drew1) | exact HB.out)⟩
              · rw [if_neg c18] at H
                have c18b0 : ((t107.length : Int) == (l0.length : Int)) = false := beq_eq_false_iff_ne.mpr c18
                have c18b1 : ((t107.length : Int) != (l0.length : Int)) = true := bne_iff_ne.mpr c18
                have c18b2 : (t107.length == l0.length) = false := by first | simpa using c18 | (simp at c18 ⊢; omega)
                obtain rfl := Option.some.inj H
                go_wp2_with (first | (go_at_call 6; (with_reducible refine (impl_Grown.calls _ _ l0 _ _ l1 a2 a3 t107 _ ?side1 ?side2 ?side3 ?side4 A17.out).mono ?_); (case side1 => repeat (first | exact (Kd.C_below HR0.out HB.out) | (with_reducible refine Kd.C_alloc ?_ _) | (with_reducible refine Kd.C_drewN ?_ _) | (with_reducible refine Kd.C_drew ?_))); (case side2 => exact HC0.out); (case side3 => repeat (first | exact (Kd.C_below HR1.out HB.out) | (with_reducible refine Kd.C_alloc ?_ _) | (with_reducible refine Kd.C_drewN ?_ _) | (with_reducible refine Kd.C_drew ?_))); (case side4 => exact HC1.out); rintro e w36 ⟨v108, rfl, ho0, hb⟩; have n0_ := Aside0.mk (Kd.R_lower ho0 (below_size (by repeat (first | (with_reducible first | exact HB.out | apply below_alloc | apply pw_below_drewN | apply below_drew1) | exact HB.out)))); have n1_ := Aside0.mk (below_step (by repeat (first | (with_reducible first | exact HB.out | apply below_alloc | apply pw_below_drewN | apply below_drew1) | exact HB.out)) hb); clear HB; have HO109 := n0_; have HB := n1_; clear n0_ n1_; (try clear hb); (try clear hb2); (try clear hk); (try clear hi); (try clear ho0); obtain ⟨Ao37, co37, eo37⟩ := Kd.R_slice HO109.out; subst eo37))
                repeat (go_quiet (first | (go_at_call 6; (with_reducible refine (impl_Grown.calls _ _ l0 _ _ l1 a2 a3 t107 _ ?side1 ?side2 ?side3 ?side4 A17.out).mono ?_); (case side1 => repeat (first | exact (Kd.C_below HR0.out HB.out) | (with_reducible refine Kd.C_alloc ?_ _) | (with_reducible refine Kd.C_drewN ?_ _) | (with_reducible refine Kd.C_drew ?_))); (case side2 => exact HC0.out); (case side3 => repeat (first | exact (Kd.C_below HR1.out HB.out) | (with_reducible refine Kd.C_alloc ?_ _) | (with_reducible refine Kd.C_drewN ?_ _) | (with_reducible refine Kd.C_drew ?_))); (case side4 => exact HC1.out); rintro e w36 ⟨v108, rfl, ho0, hb⟩; have n0_ := Aside0.mk (Kd.R_lower ho0 (below_size (by repeat (first | (with_reducible first | exact HB.out | apply below_alloc | apply pw_below_drewN | apply below_drew1) | exact HB.out)))); have n1_ := Aside0.mk (below_step (by repeat (first | (with_reducible first | exact HB.out | apply below_alloc | apply pw_below_drewN | apply below_drew1) | exact HB.out)) hb); clear HB; have HO109 := n0_; have HB := n1_; clear n0_ n1_; (try clear hb); (try clear hb2); (try clear hk); (try clear hi); (try clear ho0); obtain ⟨Ao37, co37, eo37⟩ := Kd.R_slice HO109.out; subst eo37)); try go_wp2_with (first | (go_at_call 6; (with_reducible refine (impl_Grown.calls _ _ l0 _ _ l1 a2 a3 t107 _ ?side1 ?side2 ?side3 ?side4 A17.out).mono ?_); (case side1 => repeat (first | exact (Kd.C_below HR0.out HB.out) | (with_reducible refine Kd.C_alloc ?_ _) | (with_reducible refine Kd.C_drewN ?_ _) | (with_reducible refine Kd.C_drew ?_))); (case side2 => exact HC0.out); (case side3 => repeat (first | exact (Kd.C_below HR1.out HB.out) | (with_reducible refine Kd.C_alloc ?_ _) | (with_reducible refine Kd.C_drewN ?_ _) | (with_reducible refine Kd.C_drew ?_))); (case side4 => exact HC1.out); rintro e w36 ⟨v108, rfl, ho0, hb⟩; have n0_ := Aside0.mk (Kd.R_lower ho0 (below_size (by repeat (first | (with_reducible first | exact HB.out | apply below_alloc | apply pw_below_drewN | apply below_drew1) | exact HB.out)))); have n1_ := Aside0.mk (below_step (by repeat (first | (with_reducible first | exact HB.out | apply below_alloc | apply pw_below_drewN | apply below_drew1) | exact HB.out)) hb); clear HB; have HO109 := n0_; have HB := n1_; clear n0_ n1_; (try clear hb); (try clear hb2); (try clear hk); (try clear hi); (try clear ho0); obtain ⟨Ao37, co37, eo37⟩ := Kd.R_slice HO109.out; subst eo37)))
                go_ret
                exact ⟨by first | rfl | (simp [errW_none, errW_some] <;> rfl) | (simp [*, errW_none, errW_some] <;> rfl), by repeat (first | (with_reducible first | exact HB.out | apply below_alloc | apply pw_below_drewN | apply below_drew1) | exact HB.out)⟩

/-- THE ONE PURE STATEMENT of laws_FnGrownCaps: yours. -/
def laws_FnGrownCaps.Pure : Prop := ∀ (l0 : List Int) (l1 : List Int) (a2 : Int) (a3 : Int), l0.length ≤ maxLen → l0.length * 8 ≤ 140737488351232 → (∀ x ∈ l0, (Lit.int .i64 x).wf = true) → l1.length ≤ maxLen → l1.length * 8 ≤ 140737488351232 → (∀ x ∈ l1, (Lit.int .i64 x).wf = true) → (Lit.int .i64 a2).wf = true → (Lit.int .i64 a3).wf = true → ∃ k, laws_FnGrownCaps.f k l0 l1 a2 a3 = some true
theorem laws_FnGrownCaps.walk (P : laws_FnGrownCaps.Pure) (a0 : Option Addr) (len0 cap0 : Nat) (z0 : List Int) (a1 : Option Addr) (len1 cap1 : Nat) (z1 : List Int) (a2 : Int) (a3 : Int) (w : World) (w0 : (a0 = none ∧ len0 = 0 ∧ cap0 = 0 ∧ z0 = []) ∨ ∃ x, a0 = some x ∧ len0 ≤ cap0 ∧ cap0 ≤ maxLen ∧ z0.length = cap0 ∧ (∀ i, i < z0.length → w.cell? (x.add i) = some (.int .i64 (z0.getD i 0))) ∧ ∀ n ∈ z0, (Lit.int .i64 n).wf = true) (y0 : len0 * 8 ≤ 140737488351232) (w1 : (a1 = none ∧ len1 = 0 ∧ cap1 = 0 ∧ z1 = []) ∨ ∃ x, a1 = some x ∧ len1 ≤ cap1 ∧ cap1 ≤ maxLen ∧ z1.length = cap1 ∧ (∀ i, i < z1.length → w.cell? (x.add i) = some (.int .i64 (z1.getD i 0))) ∧ ∀ n ∈ z1, (Lit.int .i64 n).wf = true) (y1 : len1 * 8 ≤ 140737488351232) (w2 : (Lit.int .i64 a2).wf = true) (w3 : (Lit.int .i64 a3).wf = true) :
    Calls Try.prog 3 #[.slice a0 len0 cap0, .slice a1 len1 cap1, .int .i64 a2, .int .i64 a3] w fun e w' => e = .returned (.bool true) ∧ Below w.heap.size w w' := by
  obtain ⟨l0, rfl, hr0, hm0, hw0, hc0⟩ := ReadsInt.ofRowC w0
  obtain ⟨l1, rfl, hr1, hm1, hw1, hc1⟩ := ReadsInt.ofRowC w1
  obtain ⟨k, h⟩ := P l0 l1 a2 a3 hm0 y0 hw0 hm1 y1 hw1 w2 w3
  refine (laws_FnGrownCaps.calls k _ _ l0 _ _ l1 a2 a3 true w (Kd.C_of_reads (d := (0 : Int)) (h1 := fun _ => rfl) hr0) hc0 (Kd.C_of_reads (d := (0 : Int)) (h1 := fun _ => rfl) hr1) hc1 h).mono ?_
  rintro e w' ⟨rfl, hd⟩
  exact ⟨rfl, hd⟩

end Go.Proofs.Ytedknmaaaaomoaa.PFnGrownCaps
