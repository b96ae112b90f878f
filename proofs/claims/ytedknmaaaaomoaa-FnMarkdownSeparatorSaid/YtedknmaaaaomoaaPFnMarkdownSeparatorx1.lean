-- Written by hprint.py, a program of this session
import Derived.Test.YtedknmaaaaomoaaPFnMarkdownSeparatorx0
namespace Go.Proofs.Ytedknmaaaaomoaa.PFnMarkdownSeparator
open Go.RowKit Go.Proofs.Ytedknmaaaaomoaa.Hand Go.Proofs.YtedknmaaaaomoaaW.PrintWords Go.Proofs.YtedknmaaaaomoaaW.PrintLast Go.Proofs.YtedknmaaaaomoaaW.PrintMore
attribute [local go_sem] max2_int min2_int max_two min_two max_three min_three max_four min_four   -- for this text's walks alone
set_option linter.unusedVariables false
set_option linter.unusedSimpArgs false

/-! ### laws_fits: function 5 -/
def laws_fits.l0 : Nat → List Int → Int → Int → Int → Int → Option (Bool)
  | 0, _, _, _, _, _ => none
  | k + 1, x0, x1, x2, x3, x9 => if x9 < (x0.length : Int) then (if 0 ≤ x9 then (if (rd x0 x9) < x2 then (some false) else (if (rd x0 x9) > x3 then (some false) else (laws_fits.l0 k x0 x1 x2 x3 (wrap64 (x9 + 1))))) else (none)) else (some (decide ((x0.length : Int) ≤ x1)))
def laws_fits.f (k : Nat) (l0 : List Int) (a1 : Int) (a2 : Int) (a3 : Int) : Option (Bool) := laws_fits.l0 k l0 a1 a2 a3 0
theorem laws_fits.mono_l : ∀ k, (∀ y0 y1 y2 y3 y4, LeO (laws_fits.l0 k y0 y1 y2 y3 y4) (laws_fits.l0 (k + 1) y0 y1 y2 y3 y4))
  | 0 => fun _ _ _ _ _ r h => by simp [laws_fits.l0] at h
  | k + 1 => by
    have ih0 := laws_fits.mono_l k
    · intro y0 y1 y2 y3 y4
      unfold laws_fits.l0
      repeat' first
      | (with_reducible exact ih0 _ _ _ _ _)
      | (with_reducible exact LeO.refl _)
      | (with_reducible exact LeO.none _)
      | (with_reducible refine LeO.ite ?_ ?_)
      | (with_reducible refine LeO.bind ?_ (fun _ => ?_))
      | exact ih0 _ _ _ _ _
      | exact LeO.none _
      | refine LeO.ite ?_ ?_
      | refine LeO.bind ?_ (fun _ => ?_)
theorem laws_fits.mono : ∀ a0 a1 a2 a3 k, LeO (laws_fits.f k a0 a1 a2 a3) (laws_fits.f (k + 1) a0 a1 a2 a3) := by
  intro a0 a1 a2 a3 k
  have ih0 := laws_fits.mono_l k
  unfold laws_fits.f
  repeat' first
      | (with_reducible exact ih0 _ _ _ _ _)
      | (with_reducible exact LeO.refl _)
      | (with_reducible exact LeO.none _)
      | (with_reducible refine LeO.ite ?_ ?_)
      | (with_reducible refine LeO.bind ?_ (fun _ => ?_))
      | exact ih0 _ _ _ _ _
      | exact LeO.none _
      | refine LeO.ite ?_ ?_
      | refine LeO.bind ?_ (fun _ => ?_)
set_option maxHeartbeats 8000000 in
set_option maxRecDepth 100000 in
theorem laws_fits.calls (k : Nat) (A0 : Option Addr) (c0 : Nat) (l0 : List Int) (a1 : Int) (a2 : Int) (a3 : Int) (r : Bool) (w : World) (hr0 : Kd.C (Kd.int .i64) w A0 l0.length l0) (hc0 : l0.length ≤ c0) (h : laws_fits.f k l0 a1 a2 a3 = some r) :
    Calls Try.prog 5 #[.slice A0 l0.length c0, .int .i64 a1, .int .i64 a2, .int .i64 a3] w fun e w' => e = .returned (.bool r) ∧ Drawn0 w w' := by
  have HR0 := Aside0.mk hr0
  have HC0 := Aside0.mk hc0
  clear hr0 hc0
  have H : (laws_fits.l0 k l0 a1 a2 a3 0) = some r := h
  clear h
  have H' := Aside0.mk H
  clear H
  go_enter Try.func5, Try.ntmps5
  go_wp2
  go_loopg [9] k (fun kq v9 w' => ∃ (x9_1 : Int), v9 = .int .i64 x9_1 ∧ Aside0 (laws_fits.l0 kq l0 a1 a2 a3 x9_1 = some r) ∧ Aside0 (kq ≤ k) ∧ Drawn0 w w')
  case atStart => exact ⟨(0), (by first | rfl | (simp; done) | (simp [*]; done)), H', ⟨Nat.le_refl _⟩, by repeat (first | exact Drawn0.refl _ | apply Drawn0.step)⟩
  case round =>
    clear H'
    try clear p2
    obtain ⟨x9_1, rfl, HA, HK1, ⟨m1, rfl⟩⟩ := hrel
    cases gk with
    | zero => exact absurd HA.out (by simp [laws_fits.l0])
    | succ k1 =>
      have H := HA.out
      clear HA
      simp only [laws_fits.l0] at H
      by_cases c5 : x9_1 < (l0.length : Int)
      · rw [if_pos c5] at H
        have c5b0 : decide (x9_1 < (l0.length : Int)) = true := decide_eq_true c5
        clear c5
        by_cases c6 : 0 ≤ x9_1
        · rw [if_pos c6] at H
          have c6b0 : decide (0 ≤ x9_1) = true := decide_eq_true c6
          clear c6
          by_cases c7 : (rd l0 x9_1) < a2
          · rw [if_pos c7] at H
            have c7b0 : decide ((rd l0 x9_1) < a2) = true := decide_eq_true c7
            clear c7
            obtain rfl := Option.some.inj H
            have p101 : 0 ≤ (x9_1 : Int) := of_decide_eq_true (by first | (with_reducible assumption) | assumption)
            have q101 : x9_1 < (l0.length : Int) := of_decide_eq_true (by first | (with_reducible assumption) | assumption)
            obtain ⟨ad101, e101, hx101_0⟩ := Kd.at_int HR0.out x9_1 p101 q101
            cases e101
            (try simp only [Go.IntWalk.toNatUp] at hx101_0)
            replace p101 := eq_true p101
            replace q101 := eq_true q101
            go_wp2
            go_ret
            exact ⟨by first | rfl | (simp; done) | (simp [*]; done), by repeat (first | exact Drawn0.refl _ | apply Drawn0.step)⟩
          · rw [if_neg c7] at H
            have c7b0 : decide ((rd l0 x9_1) < a2) = false := decide_eq_false c7
            clear c7
            by_cases c8 : (rd l0 x9_1) > a3
            · rw [if_pos c8] at H
              have c8b0 : decide (a3 < (rd l0 x9_1)) = true := decide_eq_true c8
              clear c8
              obtain rfl := Option.some.inj H
              have p101 : 0 ≤ (x9_1 : Int) := of_decide_eq_true (by first | (with_reducible assumption) | assumption)
              have q101 : x9_1 < (l0.length : Int) := of_decide_eq_true (by first | (with_reducible assumption) | assumption)
              obtain ⟨ad101, e101, hx101_0⟩ := Kd.at_int HR0.out x9_1 p101 q101
              cases e101
              (try simp only [Go.IntWalk.toNatUp] at hx101_0)
              replace p101 := eq_true p101
              replace q101 := eq_true q101
              have p102 : 0 ≤ (x9_1 : Int) := of_decide_eq_true (by first | (with_reducible assumption) | assumption)
              have q102 : x9_1 < (l0.length : Int) := of_decide_eq_true (by first | (with_reducible assumption) | assumption)
              obtain ⟨ad102, e102, hx102_0⟩ := Kd.at_int HR0.out x9_1 p102 q102
              obtain rfl : ad101 = ad102 := (by injection e102)
              (try simp only [Go.IntWalk.toNatUp] at hx102_0)
              replace p102 := eq_true p102
              replace q102 := eq_true q102
              go_wp2
              go_ret
              exact ⟨by first | rfl | (simp; done) | (simp [*]; done), by repeat (first | exact Drawn0.refl _ | apply Drawn0.step)⟩
            · rw [if_neg c8] at H
              have c8b0 : decide (a3 < (rd l0 x9_1)) = false := decide_eq_false c8
              clear c8
              have H' := Aside0.mk H
              clear H
              have p101 : 0 ≤ (x9_1 : Int) := of_decide_eq_true (by first | (with_reducible assumption) | assumption)
              have q101 : x9_1 < (l0.length : Int) := of_decide_eq_true (by first | (with_reducible assumption) | assumption)
              obtain ⟨ad101, e101, hx101_0⟩ := Kd.at_int HR0.out x9_1 p101 q101
              cases e101
              (try simp only [Go.IntWalk.toNatUp] at hx101_0)
              replace p101 := eq_true p101
              replace q101 := eq_true q101
              have p102 : 0 ≤ (x9_1 : Int) := of_decide_eq_true (by first | (with_reducible assumption) | assumption)
              have q102 : x9_1 < (l0.length : Int) := of_decide_eq_true (by first | (with_reducible assumption) | assumption)
              obtain ⟨ad102, e102, hx102_0⟩ := Kd.at_int HR0.out x9_1 p102 q102
              obtain rfl : ad101 = ad102 := (by injection e102)
              (try simp only [Go.IntWalk.toNatUp] at hx102_0)
              replace p102 := eq_true p102
              replace q102 := eq_true q102
              go_wp2
              go_roundg k1
              case measure => have := HK1.out; omega
              case rel => exact ⟨(wrap64 (x9_1 + 1)), (by first | rfl | (simp; done) | (simp [*]; done)), H', ⟨by have := HK1.out; omega⟩, by repeat (first | exact Drawn0.refl _ | apply Drawn0.step)⟩
        · rw [if_neg c6] at H
          exact absurd H (by simp)
      · rw [if_neg c5] at H
        have c5b0 : decide (x9_1 < (l0.length : Int)) = false := decide_eq_false c5
        clear c5
        obtain rfl := Option.some.inj H
        go_wp2
        go_ret
        exact ⟨by first | rfl | (simp; done) | (simp [*]; done), by repeat (first | exact Drawn0.refl _ | apply Drawn0.step)⟩

/-! ### spec_at: function 14 -/
def spec_at.f (l0 : List Int) (a1 : Int) : Option (Int) := if a1 < (l0.length : Int) then (if 0 ≤ a1 then (some (rd l0 a1)) else (none)) else (some 0)
set_option maxHeartbeats 8000000 in
set_option maxRecDepth 100000 in
theorem spec_at.calls (A0 : Option Addr) (c0 : Nat) (l0 : List Int) (a1 : Int) (r : Int) (w : World) (hr0 : Kd.C (Kd.int .i64) w A0 l0.length l0) (hc0 : l0.length ≤ c0) (h : spec_at.f l0 a1 = some r) :
    Calls Try.prog 14 #[.slice A0 l0.length c0, .int .i64 a1] w fun e w' => e = .returned (.int .i64 r) ∧ Drawn0 w w' := by
  have HR0 := Aside0.mk hr0
  have HC0 := Aside0.mk hc0
  clear hr0 hc0
  have H : (if a1 < (l0.length : Int) then (if 0 ≤ a1 then (some (rd l0 a1)) else (none)) else (some 0)) = some r := h
  clear h
  by_cases c3 : a1 < (l0.length : Int)
  · rw [if_pos c3] at H
    have c3b0 : decide (a1 < (l0.length : Int)) = true := decide_eq_true c3
    clear c3
    by_cases c4 : 0 ≤ a1
    · rw [if_pos c4] at H
      have c4b0 : decide (0 ≤ a1) = true := decide_eq_true c4
      clear c4
      obtain rfl := Option.some.inj H
      have p103 : 0 ≤ (a1 : Int) := of_decide_eq_true (by first | (with_reducible assumption) | assumption)
      have q103 : a1 < (l0.length : Int) := of_decide_eq_true (by first | (with_reducible assumption) | assumption)
      obtain ⟨ad103, e103, hx103_0⟩ := Kd.at_int HR0.out a1 p103 q103
      cases e103
      (try simp only [Go.IntWalk.toNatUp] at hx103_0)
      replace p103 := eq_true p103
      replace q103 := eq_true q103
      go_enter Try.func14, Try.ntmps14
      go_wp2
      go_ret
      exact ⟨by first | rfl | (simp; done) | (simp [*]; done), by repeat (first | exact Drawn0.refl _ | apply Drawn0.step)⟩
    · rw [if_neg c4] at H
      exact absurd H (by simp)
  · rw [if_neg c3] at H
    have c3b0 : decide (a1 < (l0.length : Int)) = false := decide_eq_false c3
    clear c3
    obtain rfl := Option.some.inj H
    go_enter Try.func14, Try.ntmps14
    go_wp2
    go_ret
    exact ⟨by first | rfl | (simp; done) | (simp [*]; done), by repeat (first | exact Drawn0.refl _ | apply Drawn0.step)⟩

/-! ### spec_At: function 7 -/
def spec_At.f (l0 : List Int) (a1 : Int) : Option (Int) := (spec_at.f l0 a1).bind fun t104 => (some t104)
set_option maxHeartbeats 8000000 in
set_option maxRecDepth 100000 in
theorem spec_At.calls (A0 : Option Addr) (c0 : Nat) (l0 : List Int) (a1 : Int) (r : Int) (w : World) (hr0 : Kd.C (Kd.int .i64) w A0 l0.length l0) (hc0 : l0.length ≤ c0) (h : spec_At.f l0 a1 = some r) :
    Calls Try.prog 7 #[.slice A0 l0.length c0, .int .i64 a1] w fun e w' => e = .returned (.int .i64 r) ∧ Drawn0 w w' := by
  have HR0 := Aside0.mk hr0
  have HC0 := Aside0.mk hc0
  clear hr0 hc0
  have H : ((spec_at.f l0 a1).bind fun t104 => (some t104)) = some r := h
  clear h
  replace H := Option.bind_eq_some_iff.mp H
  obtain ⟨t104, A30, H⟩ := H
  replace H : (some t104) = some r := H
  have A3 := Aside0.mk A30
  clear A30
  obtain rfl := Option.some.inj H
  go_enter Try.func7, Try.ntmps7
  go_wp2_with (first | ((with_reducible refine gate_callee (f := 14) rfl ?_); refine goesL_ (some 7) rfl rfl Try.func14 (by kernel_rfl) rfl #[.slice A0 l0.length c0, .int .i64 a1] rfl (by (try simp only [List.map_toArray, List.map_cons, List.map_nil]); first | done | rfl | (simp only [List.length_drop, List.length_take]; rfl)) ?_; (with_reducible refine (spec_at.calls _ _ l0 a1 t104 _ ?side1 ?side2 A3.out).mono ?_); (case side1 => repeat (first | exact HR0.out | (with_reducible refine Kd.C_alloc ?_ _) | (with_reducible refine Kd.C_drewN ?_ _) | (with_reducible refine Kd.C_drew ?_))); (case side2 => exact HC0.out); rintro e w' ⟨rfl, ⟨nd, rfl⟩⟩; refine ⟨_, rfl, ?_⟩))
  go_ret
  exact ⟨by first | rfl | (simp; done) | (simp [*]; done), by repeat (first | exact Drawn0.refl _ | apply Drawn0.step)⟩

/-! ### laws_zzFits4: function 15 -/
def laws_zzFits4.l0 : Nat → List ByteArray → Int → Int → Option (Bool)
  | 0, _, _, _ => none
  | k + 1, x8, x9, x10 => if x10 < x9 then (if 0 ≤ x10 then (if x10 < (x8.length : Int) then (if ((rdOf ByteArray.empty x8 x10).size : Int) > 2147483647 then (some false) else (laws_zzFits4.l0 k x8 x9 (wrap64 (x10 + 1)))) else (none)) else (none)) else (some true)
def laws_zzFits4.f (k : Nat) (l0 : List ByteArray) : Option (Bool) := if (l0.length : Int) > 2147483647 then (some false) else (laws_zzFits4.l0 k l0 (l0.length : Int) 0)
theorem laws_zzFits4.mono_l : ∀ k, (∀ y0 y1 y2, LeO (laws_zzFits4.l0 k y0 y1 y2) (laws_zzFits4.l0 (k + 1) y0 y1 y2))
  | 0 => fun _ _ _ r h => by simp [laws_zzFits4.l0] at h
  | k + 1 => by
    have ih0 := laws_zzFits4.mono_l k
    · intro y0 y1 y2
      unfold laws_zzFits4.l0
      repeat' first
      | (with_reducible exact ih0 _ _ _)
      | (with_reducible exact LeO.refl _)
      | (with_reducible exact LeO.none _)
      | (with_reducible refine LeO.ite ?_ ?_)
      | (with_reducible refine LeO.bind ?_ (fun _ => ?_))
      | exact ih0 _ _ _
      | exact LeO.none _
      | refine LeO.ite ?_ ?_
      | refine LeO.bind ?_ (fun _ => ?_)
theorem laws_zzFits4.mono : ∀ a0 k, LeO (laws_zzFits4.f k a0) (laws_zzFits4.f (k + 1) a0) := by
  intro a0 k
  have ih0 := laws_zzFits4.mono_l k
  unfold laws_zzFits4.f
  repeat' first
      | (with_reducible exact ih0 _ _ _)
      | (with_reducible exact LeO.refl _)
      | (with_reducible exact LeO.none _)
      | (with_reducible refine LeO.ite ?_ ?_)
      | (with_reducible refine LeO.bind ?_ (fun _ => ?_))
      | exact ih0 _ _ _
      | exact LeO.none _
      | refine LeO.ite ?_ ?_
      | refine LeO.bind ?_ (fun _ => ?_)
set_option maxHeartbeats 8000000 in
set_option maxRecDepth 100000 in
theorem laws_zzFits4.calls (k : Nat) (A0 : Option Addr) (c0 : Nat) (l0 : List ByteArray) (r : Bool) (w : World) (hr0 : Kd.C Kd.string w A0 l0.length l0) (hc0 : l0.length ≤ c0) (h : laws_zzFits4.f k l0 = some r) :
    Calls Try.prog 15 #[.slice A0 l0.length c0] w fun e w' => e = .returned (.bool r) ∧ Drawn0 w w' := by
  have HR0 := Aside0.mk hr0
  have HC0 := Aside0.mk hc0
  clear hr0 hc0
  have H : (if (l0.length : Int) > 2147483647 then (some false) else (laws_zzFits4.l0 k l0 (l0.length : Int) 0)) = some r := h
  clear h
  by_cases c2 : (l0.length : Int) > 2147483647
  · rw [if_pos c2] at H
    have c2b0 : decide (2147483647 < (l0.length : Int)) = true := decide_eq_true c2
    have c2b1 : decide (2147483647 < l0.length) = true := decide_eq_true (by omega)
    clear c2
    obtain rfl := Option.some.inj H
    go_enter Try.func15, Try.ntmps15
    go_wp2
    go_ret
    exact ⟨by first | rfl | (simp; done) | (simp [*]; done), by repeat (first | exact Drawn0.refl _ | apply Drawn0.step)⟩
  · rw [if_neg c2] at H
    have c2b0 : decide (2147483647 < (l0.length : Int)) = false := decide_eq_false c2
    have c2b1 : decide (2147483647 < l0.length) = false := decide_eq_false (by omega)
    clear c2
    have H' := Aside0.mk H
    clear H
    go_enter Try.func15, Try.ntmps15
    go_wp2
    go_loopg [10] k (fun kq v10 w' => ∃ (x10_1 : Int), v10 = .int .i64 x10_1 ∧ Aside0 (laws_zzFits4.l0 kq l0 (l0.length : Int) x10_1 = some r) ∧ Aside0 (kq ≤ k) ∧ Drawn0 w w')
    case atStart => exact ⟨(0), (by first | rfl | (simp; done) | (simp [*]; done)), H', ⟨Nat.le_refl _⟩, by repeat (first | exact Drawn0.refl _ | apply Drawn0.step)⟩
    case round =>
      clear H'
      try clear c1
      try clear c2
      try clear c2b0
      try clear c2b1
      try clear p2
      obtain ⟨x10_1, rfl, HA, HK1, ⟨m1, rfl⟩⟩ := hrel
      cases gk with
      | zero => exact absurd HA.out (by simp [laws_zzFits4.l0])
      | succ k1 =>
        have H := HA.out
        clear HA
        simp only [laws_zzFits4.l0] at H
        by_cases c3 : x10_1 < (l0.length : Int)
        · rw [if_pos c3] at H
          have c3b0 : decide (x10_1 < (l0.length : Int)) = true := decide_eq_true c3
          clear c3
          by_cases c4 : 0 ≤ x10_1
          · rw [if_pos c4] at H
            have c4b0 : decide (0 ≤ x10_1) = true := decide_eq_true c4
            clear c4
            by_cases c5 : x10_1 < (l0.length : Int)
            · rw [if_pos c5] at H
              have c5b0 : decide (x10_1 < (l0.length : Int)) = true := decide_eq_true c5
              clear c5
              by_cases c6 : ((rdOf ByteArray.empty l0 x10_1).size : Int) > 2147483647
              · rw [if_pos c6] at H
                have c6b0 : decide (2147483647 < ((rdOf ByteArray.empty l0 x10_1).size : Int)) = true := decide_eq_true c6
                have c6b1 : decide (2147483647 < (rdOf ByteArray.empty l0 x10_1).size) = true := decide_eq_true (by omega)
                clear c6
                obtain rfl := Option.some.inj H
                have p105 : 0 ≤ (x10_1 : Int) := of_decide_eq_true (by first | (with_reducible assumption) | assumption)
                have q105 : x10_1 < (l0.length : Int) := of_decide_eq_true (by first | (with_reducible assumption) | assumption)
                obtain ⟨ad105, e105, hx105_0⟩ := Kd.at_string HR0.out x10_1 p105 q105
                cases e105
                (try simp only [Go.IntWalk.toNatUp] at hx105_0)
                replace p105 := eq_true p105
                replace q105 := eq_true q105
                go_wp2
                go_ret
                exact ⟨by first | rfl | (simp; done) | (simp [*]; done), by repeat (first | exact Drawn0.refl _ | apply Drawn0.step)⟩
              · rw [if_neg c6] at H
                have c6b0 : decide (2147483647 < ((rdOf ByteArray.empty l0 x10_1).size : Int)) = false := decide_eq_false c6
                have c6b1 : decide (2147483647 < (rdOf ByteArray.empty l0 x10_1).size) = false := decide_eq_false (by omega)
                clear c6
                have H' := Aside0.mk H
                clear H
                have p105 : 0 ≤ (x10_1 : Int) := of_decide_eq_true (by first | (with_reducible assumption) | assumption)
                have q105 : x10_1 < (l0.length : Int) := of_decide_eq_true (by first | (with_reducible assumption) | assumption)
                obtain ⟨ad105, e105, hx105_0⟩ := Kd.at_string HR0.out x10_1 p105 q105
                cases e105
                (try simp only [Go.IntWalk.toNatUp] at hx105_0)
                replace p105 := eq_true p105
                replace q105 := eq_true q105
                go_wp2
                go_roundg k1
                case measure => have := HK1.out; omega
                case rel => exact ⟨(wrap64 (x10_1 + 1)), (by first | rfl | (simp; done) | (simp [*]; done)), H', ⟨by have := HK1.out; omega⟩, by repeat (first | exact Drawn0.refl _ | apply Drawn0.step)⟩
            · rw [if_neg c5] at H
              exact absurd H (by simp)
          · rw [if_neg c4] at H
            exact absurd H (by simp)
        · rw [if_neg c3] at H
          have c3b0 : decide (x10_1 < (l0.length : Int)) = false := decide_eq_false c3
          clear c3
          obtain rfl := Option.some.inj H
          go_wp2
          go_ret
          exact ⟨by first | rfl | (simp; done) | (simp [*]; done), by repeat (first | exact Drawn0.refl _ | apply Drawn0.step)⟩

/-! ### laws_zzFits21: function 8 -/
def laws_zzFits21.f (k : Nat) (l0_0 : List ByteArray) (a0_1 : Int) (a0_2 : Bool) (l0_3 : List Int) (l0_4 : List Int) (a0_5 : Int) (a0_6 : Int) : Option (Bool) := (laws_zzFits4.f k l0_0).bind fun t107 => (if t107 = true then (if (l0_3.length : Int) > 2147483647 then (some false) else (if (l0_4.length : Int) > 2147483647 then (some false) else (some true))) else (some false))
theorem laws_zzFits21.mono : ∀ a0 a1 a2 a3 a4 a5 a6 k, LeO (laws_zzFits21.f k a0 a1 a2 a3 a4 a5 a6) (laws_zzFits21.f (k + 1) a0 a1 a2 a3 a4 a5 a6) := by
  intro a0 a1 a2 a3 a4 a5 a6 k
  unfold laws_zzFits21.f
  repeat' first
      | (with_reducible exact laws_zzFits4.mono _ _)
      | (with_reducible exact LeO.refl _)
      | (with_reducible exact LeO.none _)
      | (with_reducible refine LeO.ite ?_ ?_)
      | (with_reducible refine LeO.bind ?_ (fun _ => ?_))
      | exact laws_zzFits4.mono _ _
      | exact LeO.none _
      | refine LeO.ite ?_ ?_
      | refine LeO.bind ?_ (fun _ => ?_)
set_option maxHeartbeats 8000000 in
set_option maxRecDepth 100000 in
theorem laws_zzFits21.calls (k : Nat) (A0_0 : Option Addr) (c0_0 : Nat) (l0_0 : List ByteArray) (a0_1 : Int) (a0_2 : Bool) (A0_3 : Option Addr) (c0_3 : Nat) (l0_3 : List Int) (A0_4 : Option Addr) (c0_4 : Nat) (l0_4 : List Int) (a0_5 : Int) (a0_6 : Int) (r : Bool) (w : World) (hr0_0 : Kd.C Kd.string w A0_0 l0_0.length l0_0) (hc0_0 : l0_0.length ≤ c0_0) (hr0_3 : Kd.C (Kd.int .i64) w A0_3 l0_3.length l0_3) (hc0_3 : l0_3.length ≤ c0_3) (hr0_4 : Kd.C (Kd.int .i64) w A0_4 l0_4.length l0_4) (hc0_4 : l0_4.length ≤ c0_4) (h : laws_zzFits21.f k l0_0 a0_1 a0_2 l0_3 l0_4 a0_5 a0_6 = some r) :
    Calls Try.prog 8 #[.agg #[.slice A0_0 l0_0.length c0_0, .int .i64 a0_1, .bool a0_2, .slice A0_3 l0_3.length c0_3, .slice A0_4 l0_4.length c0_4, .int .i64 a0_5, .int .i64 a0_6]] w fun e w' => e = .returned (.bool r) ∧ Below w.heap.size w w' := by
  have hu29 := Try.underlying29
  have HR0_0 := Aside0.mk hr0_0
  have HC0_0 := Aside0.mk hc0_0
  clear hr0_0 hc0_0
  have HR0_3 := Aside0.mk hr0_3
  have HC0_3 := Aside0.mk hc0_3
  clear hr0_3 hc0_3
  have HR0_4 := Aside0.mk hr0_4
  have HC0_4 := Aside0.mk hc0_4
  clear hr0_4 hc0_4
  have HB := Aside0.mk (Below.refl w.heap.size w)
  have H : ((laws_zzFits4.f k l0_0).bind fun t107 => (if t107 = true then (if (l0_3.length : Int) > 2147483647 then (some false) else (if (l0_4.length : Int) > 2147483647 then (some false) else (some true))) else (some false))) = some r := h
  clear h
  replace H := Option.bind_eq_some_iff.mp H
  obtain ⟨t107, A20, H⟩ := H
  replace H : (if t107 = true then (if (l0_3.length : Int) > 2147483647 then (some false) else (if (l0_4.length : Int) > 2147483647 then (some false) else (some true))) else (some false)) = some r := H
  have A2 := Aside0.mk A20
  clear A20
  by_cases c3 : t107 = true
  · subst c3
    have H1 : (if (l0_3.length : Int) > 2147483647 then (some false) else (if (l0_4.length : Int) > 2147483647 then (some false) else (some true))) = some r := by rw [if_pos rfl] at H; exact H
    clear H
    have H := H1
    clear H1
    by_cases c4 : (l0_3.length : Int) > 2147483647
    · rw [if_pos c4] at H
      have c4b0 : decide (2147483647 < (l0_3.length : Int)) = true := decide_eq_true c4
      have c4b1 : decide (2147483647 < l0_3.length) = true := decide_eq_true (by omega)
      clear c4
      obtain rfl := Option.some.inj H
      go_enter Try.func8, Try.ntmps8
      go_wp2_with (first | ((with_reducible refine gate_dst (N := 1) rfl ?_); refine box_event ?hg (N := 1) ?hd (cs := #[.slice A0_0 l0_0.length c0_0, .int .i64 a0_1, .bool a0_2, .slice A0_3 l0_3.length c0_3, .slice A0_4 l0_4.length c0_4, .int .i64 a0_5, .int .i64 a0_6]) (t := 29) ?hr ?_; (case hd => rfl); (case hg => rfl); (case hr => first | (go_simp; done) | (go_simp; rfl)); intro gb106 hg w5 hbox hb; have n0_ := Aside0.mk (below_step (by repeat (first | (with_reducible first | exact HB.out | apply below_alloc | apply pw_below_drewN | apply below_drew1) | exact HB.out)) hb); have n1_ := Aside0.mk (hbox); have n2_ := Aside0.mk ((by rw [hg]; exact (below_size (by repeat (first | (with_reducible first | exact HB.out | apply below_alloc | apply pw_below_drewN | apply below_drew1) | exact HB.out))) : w.heap.size ≤ gb106)); have n3_ := Aside0.mk ((by rw [hg]; exact (below_size (by repeat (first | (with_reducible first | exact HB.out | apply below_alloc | apply pw_below_drewN | apply below_drew1) | exact HB.out))) : w.heap.size ≤ gb106)); clear HB; have HB := n0_; have BK106 := n1_; have GW106 := n2_; have GE106 := n3_; clear n0_ n1_ n2_ n3_; clear hb hbox hg; have hcz6_0 : w5.cell? ⟨gb106, 0, none⟩ = some (.slice A0_0 l0_0.length c0_0) := (blk_cell BK106.out 0).trans rfl; have hcz6_1 : w5.cell? ⟨gb106, 1, none⟩ = some (.int .i64 a0_1) := (blk_cell BK106.out 1).trans rfl; have hcz6_2 : w5.cell? ⟨gb106, 2, none⟩ = some (.bool a0_2) := (blk_cell BK106.out 2).trans rfl; have hcz6_3 : w5.cell? ⟨gb106, 3, none⟩ = some (.slice A0_3 l0_3.length c0_3) := (blk_cell BK106.out 3).trans rfl; have hcz6_4 : w5.cell? ⟨gb106, 4, none⟩ = some (.slice A0_4 l0_4.length c0_4) := (blk_cell BK106.out 4).trans rfl; have hcz6_5 : w5.cell? ⟨gb106, 5, none⟩ = some (.int .i64 a0_5) := (blk_cell BK106.out 5).trans rfl; have hcz6_6 : w5.cell? ⟨gb106, 6, none⟩ = some (.int .i64 a0_6) := (blk_cell BK106.out 6).trans rfl; have hfz6_0 := blk_frozen BK106.out 0; have hfz6_1 := blk_frozen BK106.out 1; have hfz6_2 := blk_frozen BK106.out 2; have hfz6_3 := blk_frozen BK106.out 3; have hfz6_4 := blk_frozen BK106.out 4; have hfz6_5 := blk_frozen BK106.out 5; have hfz6_6 := blk_frozen BK106.out 6) | ((with_reducible refine gate_callee (f := 15) rfl ?_); refine goesL_ (some 5) rfl rfl Try.func15 (by kernel_rfl) rfl #[.slice A0_0 l0_0.length c0_0] rfl (by (try simp only [List.map_toArray, List.map_cons, List.map_nil]); first | done | rfl | (simp only [List.length_drop, List.length_take]; rfl)) ?_; (with_reducible refine (laws_zzFits4.calls k _ _ l0_0 true _ ?side1 ?side2 A2.out).mono ?_); (case side1 => repeat (first | exact (Kd.C_below HR0_0.out HB.out) | (with_reducible refine Kd.C_alloc ?_ _) | (with_reducible refine Kd.C_drewN ?_ _) | (with_reducible refine Kd.C_drew ?_))); (case side2 => exact HC0_0.out); rintro e w' ⟨rfl, ⟨nd, rfl⟩⟩; refine ⟨_, rfl, ?_⟩))
      go_ret
      exact ⟨by first | rfl | (simp [errW_none, errW_some] <;> rfl) | (simp [*, errW_none, errW_some] <;> rfl), by repeat (first | (with_reducible first | exact HB.out | apply below_alloc | apply pw_below_drewN | apply below_drew1 | refine below_set ?_ GE106.out) | exact HB.out)⟩
    · rw [if_neg c4] at H
      have c4b0 : decide (2147483647 < (l0_3.length : Int)) = false := decide_eq_false c4
      have c4b1 : decide (2147483647 < l0_3.length) = false := decide_eq_false (by omega)
      clear c4
      by_cases c7 : (l0_4.length : Int) > 2147483647
      · rw [if_pos c7] at H
        have c7b0 : decide (2147483647 < (l0_4.length : Int)) = true := decide_eq_true c7
        have c7b1 : decide (2147483647 < l0_4.length) = true := decide_eq_true (by omega)
        clear c7
        obtain rfl := Option.some.inj H
        go_enter Try.func8, Try.ntmps8
        go_wp2_with (first | ((with_reducible refine gate_dst (N := 1) rfl ?_); refine box_event ?hg (N := 1) ?hd (cs := #[.slice A0_0 l0_0.length c0_0, .int .i64 a0_1, .bool a0_2, .slice A0_3 l0_3.length c0_3, .slice A0_4 l0_4.length c0_4, .int .i64 a0_5, .int .i64 a0_6]) (t := 29) ?hr ?_; (case hd => rfl); (case hg => rfl); (case hr => first | (go_simp; done) | (go_simp; rfl)); intro gb106 hg w8 hbox hb; have n0_ := Aside0.mk (below_step (by repeat (first | (with_reducible first | exact HB.out | apply below_alloc | apply pw_below_drewN | apply below_drew1) | exact HB.out)) hb); have n1_ := Aside0.mk (hbox); have n2_ := Aside0.mk ((by rw [hg]; exact (below_size (by repeat (first | (with_reducible first | exact HB.out | apply below_alloc | apply pw_below_drewN | apply below_drew1) | exact HB.out))) : w.heap.size ≤ gb106)); have n3_ := Aside0.mk ((by rw [hg]; exact (below_size (by repeat (first | (with_reducible first | exact HB.out | apply below_alloc | apply pw_below_drewN | apply below_drew1) | exact HB.out))) : w.heap.size ≤ gb106)); clear HB; have HB := n0_; have BK106 := n1_; have GW106 := n2_; have GE106 := n3_; clear n0_ n1_ n2_ n3_; clear hb hbox hg; have hcz9_0 : w8.cell? ⟨gb106, 0, none⟩ = some (.slice A0_0 l0_0.length c0_0) := (blk_cell BK106.out 0).trans rfl; have hcz9_1 : w8.cell? ⟨gb106, 1, none⟩ = some (.int .i64 a0_1) := (blk_cell BK106.out 1).trans rfl; have hcz9_2 : w8.cell? ⟨gb106, 2, none⟩ = some (.bool a0_2) := (blk_cell BK106.out 2).trans rfl; have hcz9_3 : w8.cell? ⟨gb106, 3, none⟩ = some (.slice A0_3 l0_3.length c0_3) := (blk_cell BK106.out 3).trans rfl; have hcz9_4 : w8.cell? ⟨gb106, 4, none⟩ = some (.slice A0_4 l0_4.length c0_4) := (blk_cell BK106.out 4).trans rfl; have hcz9_5 : w8.cell? ⟨gb106, 5, none⟩ = some (.int .i64 a0_5) := (blk_cell BK106.out 5).trans rfl; have hcz9_6 : w8.cell? ⟨gb106, 6, none⟩ = some (.int .i64 a0_6) := (blk_cell BK106.out 6).trans rfl; have hfz9_0 := blk_frozen BK106.out 0; have hfz9_1 := blk_frozen BK106.out 1; have hfz9_2 := blk_frozen BK106.out 2; have hfz9_3 := blk_frozen BK106.out 3; have hfz9_4 := blk_frozen BK106.out 4; have hfz9_5 := blk_frozen BK106.out 5; have hfz9_6 := blk_frozen BK106.out 6) | ((with_reducible refine gate_callee (f := 15) rfl ?_); refine goesL_ (some 5) rfl rfl Try.func15 (by kernel_rfl) rfl #[.slice A0_0 l0_0.length c0_0] rfl (by (try simp only [List.map_toArray, List.map_cons, List.map_nil]); first | done | rfl | (simp only [List.length_drop, List.length_take]; rfl)) ?_; (with_reducible refine (laws_zzFits4.calls k _ _ l0_0 true _ ?side1 ?side2 A2.out).mono ?_); (case side1 => repeat (first | exact (Kd.C_below HR0_0.out HB.out) | (with_reducible refine Kd.C_alloc ?_ _) | (with_reducible refine Kd.C_drewN ?_ _) | (with_reducible refine Kd.C_drew ?_))); (case side2 => exact HC0_0.out); rintro e w' ⟨rfl, ⟨nd, rfl⟩⟩; refine ⟨_, rfl, ?_⟩))
        go_ret
        exact ⟨by first | rfl | (simp [errW_none, errW_some] <;> rfl) | (simp [*, errW_none, errW_some] <;> rfl), by repeat (first | (with_reducible first | exact HB.out | apply below_alloc | apply pw_below_drewN | apply below_drew1 | refine below_set ?_ GE106.out) | exact HB.out)⟩
      · rw [if_neg c7] at H
        have c7b0 : decide (2147483647 < (l0_4.length : Int)) = false := decide_eq_false c7
        have c7b1 : decide (2147483647 < l0_4.length) = false := decide_eq_false (by omega)
        clear c7
        obtain rfl := Option.some.inj H
        go_enter Try.func8, Try.ntmps8
        go_wp2_with (first | ((with_reducible refine gate_dst (N := 1) rfl ?_); refine box_event ?hg (N := 1) ?hd (cs := #[.slice A0_0 l0_0.length c0_0, .int .i64 a0_1, .bool a0_2, .slice A0_3 l0_3.length c0_3, .slice A0_4 l0_4.length c0_4, .int .i64 a0_5, .int .i64 a0_6]) (t := 29) ?hr ?_; (case hd => rfl); (case hg => rfl); (case hr => first | (go_simp; done) | (go_simp; rfl)); intro gb106 hg w10 hbox hb; have n0_ := Aside0.mk (below_step (by repeat (first | (with_reducible first | exact HB.out | apply below_alloc | apply pw_below_drewN | apply below_drew1) | exact HB.out)) hb); have n1_ := Aside0.mk (hbox); have n2_ := Aside0.mk ((by rw [hg]; exact (below_size (by repeat (first | (with_reducible first | exact HB.out | apply below_alloc | apply pw_below_drewN | apply below_drew1) | exact HB.out))) : w.heap.size ≤ gb106)); have n3_ := Aside0.mk ((by rw [hg]; exact (below_size (by repeat (first | (with_reducible first | exact HB.out | apply below_alloc | apply pw_below_drewN | apply below_drew1) | exact HB.out))) : w.heap.size ≤ gb106)); clear HB; have HB := n0_; have BK106 := n1_; have GW106 := n2_; have GE106 := n3_; clear n0_ n1_ n2_ n3_; clear hb hbox hg; have hcz11_0 : w10.cell? ⟨gb106, 0, none⟩ = some (.slice A0_0 l0_0.length c0_0) := (blk_cell BK106.out 0).trans rfl; have hcz11_1 : w10.cell? ⟨gb106, 1, none⟩ = some (.int .i64 a0_1) := (blk_cell BK106.out 1).trans rfl; have hcz11_2 : w10.cell? ⟨gb106, 2, none⟩ = some (.bool a0_2) := (blk_cell BK106.out 2).trans rfl; have hcz11_3 : w10.cell? ⟨gb106, 3, none⟩ = some (.slice A0_3 l0_3.length c0_3) := (blk_cell BK106.out 3).trans rfl; have hcz11_4 : w10.cell? ⟨gb106, 4, none⟩ = some (.slice A0_4 l0_4.length c0_4) := (blk_cell BK106.out 4).trans rfl; have hcz11_5 : w10.cell? ⟨gb106, 5, none⟩ = some (.int .i64 a0_5) := (blk_cell BK106.out 5).trans rfl; have hcz11_6 : w10.cell? ⟨gb106, 6, none⟩ = some (.int .i64 a0_6) := (blk_cell BK106.out 6).trans rfl; have hfz11_0 := blk_frozen BK106.out 0; have hfz11_1 := blk_frozen BK106.out 1; have hfz11_2 := blk_frozen BK106.out 2; have hfz11_3 := blk_frozen BK106.out 3; have hfz11_4 := blk_frozen BK106.out 4; have hfz11_5 := blk_frozen BK106.out 5; have hfz11_6 := blk_frozen BK106.out 6) | ((with_reducible refine gate_callee (f := 15) rfl ?_); refine goesL_ (some 5) rfl rfl Try.func15 (by kernel_rfl) rfl #[.slice A0_0 l0_0.length c0_0] rfl (by (try simp only [List.map_toArray, List.map_cons, List.map_nil]); first | done | rfl | (simp only [List.length_drop, List.length_take]; rfl)) ?_; (with_reducible refine (laws_zzFits4.calls k _ _ l0_0 true _ ?side1 ?side2 A2.out).mono ?_); (case side1 => repeat (first | exact (Kd.C_below HR0_0.out HB.out) | (with_reducible refine Kd.C_alloc ?_ _) | (with_reducible refine Kd.C_drewN ?_ _) | (with_reducible refine Kd.C_drew ?_))); (case side2 => exact HC0_0.out); rintro e w' ⟨rfl, ⟨nd, rfl⟩⟩; refine ⟨_, rfl, ?_⟩))
        go_ret
        exact ⟨by first | rfl | (simp [errW_none, errW_some] <;> rfl) | (simp [*, errW_none, errW_some] <;> rfl), by repeat (first | (with_reducible first | exact HB.out | apply below_alloc | apply pw_below_drewN | apply below_drew1 | refine below_set ?_ GE106.out) | exact HB.out)⟩
  · replace c3 := Bool.eq_false_iff.mpr c3
    subst c3
    have H1 : (some false) = some r := by rw [if_neg (show ¬ (false = true) by decide)] at H; exact H
    clear H
    have H := H1
    clear H1
    obtain rfl := Option.some.inj H
    go_enter Try.func8, Try.ntmps8
    go_wp2_with (first | ((with_reducible refine gate_dst (N := 1) rfl ?_); refine box_event ?hg (N := 1) ?hd (cs := #[.slice A0_0 l0_0.length c0_0, .int .i64 a0_1, .bool a0_2, .slice A0_3 l0_3.length c0_3, .slice A0_4 l0_4.length c0_4, .int .i64 a0_5, .int .i64 a0_6]) (t := 29) ?hr ?_; (case hd => rfl); (case hg => rfl); (case hr => first | (go_simp; done) | (go_simp; rfl)); intro gb106 hg w12 hbox hb; have n0_ := Aside0.mk (below_step (by repeat (first | (with_reducible first | exact HB.out | apply below_alloc | apply pw_below_drewN | apply below_drew1) | exact HB.out)) hb); have n1_ := Aside0.mk (hbox); have n2_ := Aside0.mk ((by rw [hg]; exact (below_size (by repeat (first | (with_reducible first | exact HB.out | apply below_alloc | apply pw_below_drewN | apply below_drew1) | exact HB.out))) : w.heap.size ≤ gb106)); have n3_ := Aside0.mk ((by rw [hg]; exact (below_size (by repeat (first | (with_reducible first | exact HB.out | apply below_alloc | apply pw_below_drewN | apply below_drew1) | exact HB.out))) : w.heap.size ≤ gb106)); clear HB; have HB := n0_; have BK106 := n1_; have GW106 := n2_; have GE106 := n3_; clear n0_ n1_ n2_ n3_; clear hb hbox hg; have hcz13_0 : w12.cell? ⟨gb106, 0, none⟩ = some (.slice A0_0 l0_0.length c0_0) := (blk_cell BK106.out 0).trans rfl; have hcz13_1 : w12.cell? ⟨gb106, 1, none⟩ = some (.int .i64 a0_1) := (blk_cell BK106.out 1).trans rfl; have hcz13_2 : w12.cell? ⟨gb106, 2, none⟩ = some (.bool a0_2) := (blk_cell BK106.out 2).trans rfl; have hcz13_3 : w12.cell? ⟨gb106, 3, none⟩ = some (.slice A0_3 l0_3.length c0_3) := (blk_cell BK106.out 3).trans rfl; have hcz13_4 : w12.cell? ⟨gb106, 4, none⟩ = some (.slice A0_4 l0_4.length c0_4) := (blk_cell BK106.out 4).trans rfl; have hcz13_5 : w12.cell? ⟨gb106, 5, none⟩ = some (.int .i64 a0_5) := (blk_cell BK106.out 5).trans rfl; have hcz13_6 : w12.cell? ⟨gb106, 6, none⟩ = some (.int .i64 a0_6) := (blk_cell BK106.out 6).trans rfl; have hfz13_0 := blk_frozen BK106.out 0; have hfz13_1 := blk_frozen BK106.out 1; have hfz13_2 := blk_frozen BK106.out 2; have hfz13_3 := blk_frozen BK106.out 3; have hfz13_4 := blk_frozen BK106.out 4; have hfz13_5 := blk_frozen BK106.out 5; have hfz13_6 := blk_frozen BK106.out 6) | ((with_reducible refine gate_callee (f := 15) rfl ?_); refine goesL_ (some 5) rfl rfl Try.func15 (by kernel_rfl) rfl #[.slice A0_0 l0_0.length c0_0] rfl (by (try simp only [List.map_toArray, List.map_cons, List.map_nil]); first | done | rfl | (simp only [List.length_drop, List.length_take]; rfl)) ?_; (with_reducible refine (laws_zzFits4.calls k _ _ l0_0 false _ ?side1 ?side2 A2.out).mono ?_); (case side1 => repeat (first | exact (Kd.C_below HR0_0.out HB.out) | (with_reducible refine Kd.C_alloc ?_ _) | (with_reducible refine Kd.C_drewN ?_ _) | (with_reducible refine Kd.C_drew ?_))); (case side2 => exact HC0_0.out); rintro e w' ⟨rfl, ⟨nd, rfl⟩⟩; refine ⟨_, rfl, ?_⟩))
    go_ret
    exact ⟨by first | rfl | (simp [errW_none, errW_some] <;> rfl) | (simp [*, errW_none, errW_some] <;> rfl), by repeat (first | (with_reducible first | exact HB.out | apply below_alloc | apply pw_below_drewN | apply below_drew1 | refine below_set ?_ GE106.out) | exact HB.out)⟩

/-! ### spec_Times: function 9 -/
def spec_Times.l0 : Nat → ByteArray → Int → ByteArray → Int → Option (ByteArray)
  | 0, _, _, _, _ => none
  | k + 1, x0, x1, x5, x6 => if x6 < x1 then (if x5.size + x0.size ≤ 9223372036854775807 then (spec_Times.l0 k x0 x1 (x5 ++ x0) (wrap64 (x6 + 1))) else (none)) else (some x5)
def spec_Times.f (k : Nat) (a0 : ByteArray) (a1 : Int) : Option (ByteArray) := spec_Times.l0 k a0 a1 (⟨#[]⟩ : ByteArray) 0
theorem spec_Times.mono_l : ∀ k, (∀ y0 y1 y2 y3, LeO (spec_Times.l0 k y0 y1 y2 y3) (spec_Times.l0 (k + 1) y0 y1 y2 y3))
  | 0 => fun _ _ _ _ r h => by simp [spec_Times.l0] at h
  | k + 1 => by
    have ih0 := spec_Times.mono_l k
    · intro y0 y1 y2 y3
      unfold spec_Times.l0
      repeat' first
      | (with_reducible exact ih0 _ _ _ _)
      | (with_reducible exact LeO.refl _)
      | (with_reducible exact LeO.none _)
      | (with_reducible refine LeO.ite ?_ ?_)
      | (with_reducible refine LeO.bind ?_ (fun _ => ?_))
      | exact ih0 _ _ _ _
      | exact LeO.none _
      | refine LeO.ite ?_ ?_
      | refine LeO.bind ?_ (fun _ => ?_)
theorem spec_Times.mono : ∀ a0 a1 k, LeO (spec_Times.f k a0 a1) (spec_Times.f (k + 1) a0 a1) := by
  intro a0 a1 k
  have ih0 := spec_Times.mono_l k
  unfold spec_Times.f
  repeat' first
      | (with_reducible exact ih0 _ _ _ _)
      | (with_reducible exact LeO.refl _)
      | (with_reducible exact LeO.none _)
      | (with_reducible refine LeO.ite ?_ ?_)
      | (with_reducible refine LeO.bind ?_ (fun _ => ?_))
      | exact ih0 _ _ _ _
      | exact LeO.none _
      | refine LeO.ite ?_ ?_
      | refine LeO.bind ?_ (fun _ => ?_)
set_option maxHeartbeats 8000000 in
set_option maxRecDepth 100000 in
theorem spec_Times.calls (k : Nat) (a0 : ByteArray) (a1 : Int) (r : ByteArray) (w : World) (h : spec_Times.f k a0 a1 = some r) :
    Calls Try.prog 9 #[.string a0, .int .i64 a1] w fun e w' => e = .returned (.string r) ∧ Drawn0 w w' := by
  have H : (spec_Times.l0 k a0 a1 (⟨#[]⟩ : ByteArray) 0) = some r := h
  clear h
  have H' := Aside0.mk H
  clear H
  go_enter Try.func9, Try.ntmps9
  go_wp2
  go_loopg [5, 6] k (fun kq v5 v6 w' => ∃ (x5_1 : ByteArray) (x6_1 : Int), v5 = .string x5_1 ∧ v6 = .int .i64 x6_1 ∧ Aside0 (spec_Times.l0 kq a0 a1 x5_1 x6_1 = some r) ∧ Aside0 (kq ≤ k) ∧ Drawn0 w w')
  case atStart => exact ⟨((⟨#[]⟩ : ByteArray)), (0), (by first | rfl | (simp; done) | (simp [*]; done)), (by first | rfl | (simp; done) | (simp [*]; done)), H', ⟨Nat.le_refl _⟩, by repeat (first | exact Drawn0.refl _ | apply Drawn0.step)⟩
  case round =>
    clear H'
    try clear p2
    obtain ⟨x5_1, x6_1, rfl, rfl, HA, HK1, ⟨m1, rfl⟩⟩ := hrel
    cases gk with
    | zero => exact absurd HA.out (by simp [spec_Times.l0])
    | succ k1 =>
      have H := HA.out
      clear HA
      simp only [spec_Times.l0] at H
      by_cases c3 : x6_1 < a1
      · rw [if_pos c3] at H
        have c3b0 : decide (x6_1 < a1) = true := decide_eq_true c3
        clear c3
        by_cases c4 : x5_1.size + a0.size ≤ 9223372036854775807
        · rw [if_pos c4] at H
          have c4b0 := eq_true c4
          have c4b1 : decide (x5_1.size + a0.size ≤ 9223372036854775807) = true := decide_eq_true c4
          try have c4b2 : (9223372036854775807 < x5_1.size + a0.size) = False := eq_false (Nat.not_lt.2 c4)
          have H' := Aside0.mk H
          clear H
          go_wp2
          go_roundg k1
          case measure => have := HK1.out; omega
          case rel => exact ⟨(x5_1 ++ a0), (wrap64 (x6_1 + 1)), (by first | rfl | (simp; done) | (simp [*]; done)), (by first | rfl | (simp; done) | (simp [*]; done)), H', ⟨by have := HK1.out; omega⟩, by repeat (first | exact Drawn0.refl _ | apply Drawn0.step)⟩
        · rw [if_neg c4] at H
          exact absurd H (by simp)
      · rw [if_neg c3] at H
        have c3b0 : decide (x6_1 < a1) = false := decide_eq_false c3
        clear c3
        obtain rfl := Option.some.inj H
        go_wp2
        go_ret
        exact ⟨by first | rfl | (simp; done) | (simp [*]; done), by repeat (first | exact Drawn0.refl _ | apply Drawn0.step)⟩

-- BY HAND: function 21 (strings_Repeat)

/-! ### text_Align_MarkdownProperty: function 16 -/
mutual
def text_Align_MarkdownProperty.j0 : Nat → Int → List Int → Int → Bool → Option (ByteArray)
  | 0, _, _, _, _ => none
  | k + 1, x0, x1, x5, x16 => if x16 = true then (if 0 < (x1.length : Int) then (text_Align_MarkdownProperty.j1 k x0 (rd x1 0)) else (none)) else (text_Align_MarkdownProperty.j1 k x0 x5)
def text_Align_MarkdownProperty.j1 : Nat → Int → Int → Option (ByteArray)
  | 0, _, _ => none
  | k + 1, x0, x5 => (strings_Repeat.f (⟨#[45]⟩ : ByteArray) x5).bind fun t110 => (if x0 = 1 then (if 1 + t110.size ≤ 9223372036854775807 then (if ((⟨#[58]⟩ : ByteArray) ++ t110).size + 1 ≤ 9223372036854775807 then (some (((⟨#[58]⟩ : ByteArray) ++ t110) ++ (⟨#[32]⟩ : ByteArray))) else (none)) else (none)) else (if x0 = 2 then (if 1 + t110.size ≤ 9223372036854775807 then (if ((⟨#[58]⟩ : ByteArray) ++ t110).size + 1 ≤ 9223372036854775807 then (some (((⟨#[58]⟩ : ByteArray) ++ t110) ++ (⟨#[58]⟩ : ByteArray))) else (none)) else (none)) else (if x0 = 4 then (if 1 + t110.size ≤ 9223372036854775807 then (if ((⟨#[32]⟩ : ByteArray) ++ t110).size + 1 ≤ 9223372036854775807 then (some (((⟨#[32]⟩ : ByteArray) ++ t110) ++ (⟨#[58]⟩ : ByteArray))) else (none)) else (none)) else (if 1 + t110.size ≤ 9223372036854775807 then (if ((⟨#[32]⟩ : ByteArray) ++ t110).size + 1 ≤ 9223372036854775807 then (some (((⟨#[32]⟩ : ByteArray) ++ t110) ++ (⟨#[32]⟩ : ByteArray))) else (none)) else (none)))))
end
def text_Align_MarkdownProperty.f (k : Nat) (a0 : Int) (l1 : List Int) : Option (ByteArray) := if (l1.length : Int) > 0 then (if 0 < (l1.length : Int) then (text_Align_MarkdownProperty.j0 k a0 l1 3 (decide ((rd l1 0) > 3))) else (none)) else (text_Align_MarkdownProperty.j0 k a0 l1 3 false)
theorem text_Align_MarkdownProperty.mono_l : ∀ k, (∀ y0 y1 y2 y3, LeO (text_Align_MarkdownProperty.j0 k y0 y1 y2 y3) (text_Align_MarkdownProperty.j0 (k + 1) y0 y1 y2 y3)) ∧ (∀ y0 y1, LeO (text_Align_MarkdownProperty.j1 k y0 y1) (text_Align_MarkdownProperty.j1 (k + 1) y0 y1))
  | 0 => ⟨fun _ _ _ _ r h => by simp [text_Align_MarkdownProperty.j0] at h, fun _ _ r h => by simp [text_Align_MarkdownProperty.j1] at h⟩
  | k + 1 => by
    obtain ⟨ih0, ih1⟩ := text_Align_MarkdownProperty.mono_l k
    refine ⟨?_, ?_⟩
    · intro y0 y1 y2 y3
      unfold text_Align_MarkdownProperty.j0
      repeat' first
      | (with_reducible exact ih0 _ _ _ _)
      | (with_reducible exact ih1 _ _)
      | (with_reducible exact LeO.refl _)
      | (with_reducible exact LeO.none _)
      | (with_reducible refine LeO.ite ?_ ?_)
      | (with_reducible refine LeO.bind ?_ (fun _ => ?_))
      | exact ih0 _ _ _ _
      | exact ih1 _ _
      | exact LeO.none _
      | refine LeO.ite ?_ ?_
      | refine LeO.bind ?_ (fun _ => ?_)
    · intro y0 y1
      unfold text_Align_MarkdownProperty.j1
      repeat' first
      | (with_reducible exact ih0 _ _ _ _)
      | (with_reducible exact ih1 _ _)
      | (with_reducible exact LeO.refl _)
      | (with_reducible exact LeO.none _)
      | (with_reducible refine LeO.ite ?_ ?_)
      | (with_reducible refine LeO.bind ?_ (fun _ => ?_))
      | exact ih0 _ _ _ _
      | exact ih1 _ _
      | exact LeO.none _
      | refine LeO.ite ?_ ?_
      | refine LeO.bind ?_ (fun _ => ?_)
theorem text_Align_MarkdownProperty.mono : ∀ a0 a1 k, LeO (text_Align_MarkdownProperty.f k a0 a1) (text_Align_MarkdownProperty.f (k + 1) a0 a1) := by
  intro a0 a1 k
  obtain ⟨ih0, ih1⟩ := text_Align_MarkdownProperty.mono_l k
  unfold text_Align_MarkdownProperty.f
  repeat' first
      | (with_reducible exact ih0 _ _ _ _)
      | (with_reducible exact ih1 _ _)
      | (with_reducible exact LeO.refl _)
      | (with_reducible exact LeO.none _)
      | (with_reducible refine LeO.ite ?_ ?_)
      | (with_reducible refine LeO.bind ?_ (fun _ => ?_))
      | exact ih0 _ _ _ _
      | exact ih1 _ _
      | exact LeO.none _
      | refine LeO.ite ?_ ?_
      | refine LeO.bind ?_ (fun _ => ?_)
set_option maxHeartbeats 8000000 in
set_option maxRecDepth 100000 in
theorem text_Align_MarkdownProperty.calls (k : Nat) (a0 : Int) (A1 : Option Addr) (c1 : Nat) (l1 : List Int) (r : ByteArray) (w : World) (hr1 : Kd.C (Kd.int .i64) w A1 l1.length l1) (hc1 : l1.length ≤ c1) (h : text_Align_MarkdownProperty.f k a0 l1 = some r) :
    Calls Try.prog 16 #[.int .i64 a0, .slice A1 l1.length c1] w fun e w' => e = .returned (.string r) ∧ Below w.heap.size w w' := by
  have HR1 := Aside0.mk hr1
  have HC1 := Aside0.mk hc1
  clear hr1 hc1
  have HB := Aside0.mk (Below.refl w.heap.size w)
  have H : (if (l1.length : Int) > 0 then (if 0 < (l1.length : Int) then (text_Align_MarkdownProperty.j0 k a0 l1 3 (decide ((rd l1 0) > 3))) else (none)) else (text_Align_MarkdownProperty.j0 k a0 l1 3 false)) = some r := h
  clear h
  have HC3 := Aside0.mk H
  clear H
  go_enter Try.func16, Try.ntmps16
  go_upto_region 2 with (fail)
  go_cut [16] (fun v16 wc => ∃ (kq : Nat) (x16_2 : Bool), v16 = .bool x16_2 ∧ Aside0 (text_Align_MarkdownProperty.j0 kq a0 l1 3 x16_2 = some r) ∧ Aside0 (kq ≤ k) ∧ Aside0 (Below w.heap.size w wc))
  case first =>
    have H := HC3.out
    clear HC3
    by_cases c4 : (l1.length : Int) > 0
    · rw [if_pos c4] at H
      have c4b0 : decide (0 < (l1.length : Int)) = true := decide_eq_true c4
      have c4b1 : decide (0 < l1.length) = true := decide_eq_true (by omega)
      clear c4
      (first | rw [c4b0] | (simp only [i64_w, i32_w]; rw [c4b0]) | skip)
      by_cases c5 : 0 < (l1.length : Int)
      · rw [if_pos c5] at H
        have c5b0 : decide (0 < (l1.length : Int)) = true := decide_eq_true c5
        have c5b1 : decide (0 < l1.length) = true := decide_eq_true (by omega)
        clear c5
        have H' := Aside0.mk H
        clear H
        have p108 : 0 ≤ (0 : Int) := (by omega)
        have q108 : 0 < (l1.length : Int) := of_decide_eq_true (by first | (with_reducible assumption) | assumption)
        obtain ⟨ad108, e108, hx108_0⟩ := Kd.at_int HR1.out 0 p108 q108
        cases e108
        have qi108 : (0 < l1.length) = True := eq_true (by omega)
        (try rw [show ((0 : Int)).toNat = 0 from rfl] at hx108_0)
        (try rw [Addr.add_zero'] at hx108_0)
        replace hx108_0 := (HB.out.cell (World.block_lt_of_cell? w _ hx108_0)).trans hx108_0
        (try simp only [Go.IntWalk.toNatUp] at hx108_0)
        replace p108 := eq_true p108
        replace q108 := eq_true q108
        go_wp2
        go_meet
        case rel => exact ⟨_, (decide ((rd l1 0) > 3)), (by first | rfl | (simp; done) | (simp [*]; done)), H', ⟨by first | omega | exact Nat.le_refl _⟩, ⟨by repeat (first | (with_reducible first | exact HB.out | apply below_alloc | apply pw_below_drewN | apply below_drew1) | exact HB.out)⟩⟩
      · rw [if_neg c5] at H
        exact absurd H (by simp)
    · rw [if_neg c4] at H
      have c4b0 : decide (0 < (l1.length : Int)) = false := decide_eq_false c4
      have c4b1 : decide (0 < l1.length) = false := decide_eq_false (by omega)
      clear c4
      (first | rw [c4b0] | (simp only [i64_w, i32_w]; rw [c4b0]) | skip)
      have H' := Aside0.mk H
      clear H
      go_wp2
      go_meet
      case rel => exact ⟨_, (false), (by first | rfl | (simp; done) | (simp [*]; done)), H', ⟨by first | omega | exact Nat.le_refl _⟩, ⟨by repeat (first | (with_reducible first | exact HB.out | apply below_alloc | apply pw_below_drewN | apply below_drew1) | exact HB.out)⟩⟩
  case rest =>
    clear HC3
    try clear c1
    try clear p1
    try clear q1
    try clear hx1
    try clear qi1
    try clear p2
    try clear c4
    try clear c4b0
    try clear c4b1
    try clear c5
    try clear c5b0
    try clear c5b1
    try clear hx108_0
    try clear p108
    try clear q108
    obtain ⟨kq, x16_2, rfl, HA, HJ2, HB⟩ := hcut
    cases kq with
    | zero => exact absurd HA.out (by simp [text_Align_MarkdownProperty.j0])
    | succ kj2 =>
      have H := HA.out
      clear HA
      simp only [text_Align_MarkdownProperty.j0] at H
      have HC6 := Aside0.mk H
      clear H
      go_upto_if 16 with (fail)
      go_cut [5] (fun v5 wc => ∃ (kq : Nat) (x5_5 : Int), v5 = .int .i64 x5_5 ∧ Aside0 (text_Align_MarkdownProperty.j1 kq a0 x5_5 = some r) ∧ Aside0 (kq ≤ kj2) ∧ Aside0 (Below w.heap.size w wc))
      case first =>
        have H := HC6.out
        clear HC6
        by_cases c7 : x16_2 = true
        · subst c7
          have H1 : (if 0 < (l1.length : Int) then (text_Align_MarkdownProperty.j1 kj2 a0 (rd l1 0)) else (none)) = some r := by rw [if_pos rfl] at H; exact H
          clear H
          have H := H1
          clear H1
          by_cases c8 : 0 < (l1.length : Int)
          · rw [if_pos c8] at H
            have c8b0 : decide (0 < (l1.length : Int)) = true := decide_eq_true c8
            have c8b1 : decide (0 < l1.length) = true := decide_eq_true (by omega)
            clear c8
            (first | rw [c8b0] | (simp only [i64_w, i32_w]; rw [c8b0]) | skip)
            have H' := Aside0.mk H
            clear H
            have p109 : 0 ≤ (0 : Int) := (by omega)
            have q109 : 0 < (l1.length : Int) := of_decide_eq_true (by first | (with_reducible assumption) | assumption)
            obtain ⟨ad109, e109, hx109_0⟩ := Kd.at_int HR1.out 0 p109 q109
            cases e109
            have qi109 : (0 < l1.length) = True := eq_true (by omega)
            (try rw [show ((0 : Int)).toNat = 0 from rfl] at hx109_0)
            (try rw [Addr.add_zero'] at hx109_0)
            replace hx109_0 := (HB.out.cell (World.block_lt_of_cell? w _ hx109_0)).trans hx109_0
            (try simp only [Go.IntWalk.toNatUp] at hx109_0)
            replace p109 := eq_true p109
            replace q109 := eq_true q109
            go_wp2
            go_meet
            case rel => exact ⟨_, (rd l1 0), (by first | rfl | (simp; done) | (simp [*]; done)), H', ⟨by have := HJ2.out; first | omega | exact Nat.le_refl _⟩, ⟨by repeat (first | (with_reducible first | exact HB.out | apply below_alloc | apply pw_below_drewN | apply below_drew1) | exact HB.out)⟩⟩
          · rw [if_neg c8] at H
            exact absurd H (by simp)
        · replace c7 := Bool.eq_false_iff.mpr c7
          subst c7
          have H1 : (text_Align_MarkdownProperty.j1 kj2 a0 3) = some r := by rw [if_neg (show ¬ (false = true) by decide)] at H; exact H
          clear H
          have H := H1
          clear H1
          have H' := Aside0.mk H
          clear H
          go_wp2
          go_meet
          case rel => exact ⟨_, (3), (by first | rfl | (simp; done) | (simp [*]; done)), H', ⟨by have := HJ2.out; first | omega | exact Nat.le_refl _⟩, ⟨by repeat (first | (with_reducible first | exact HB.out | apply below_alloc | apply pw_below_drewN | apply below_drew1) | exact HB.out)⟩⟩
      case rest =>
        clear HC6
        try clear c1
        try clear p1
        try clear q1
        try clear hx1
        try clear qi1
        try clear p2
        try clear c4
        try clear c4b0
        try clear c4b1
        try clear c5
        try clear c5b0
        try clear c5b1
        try clear c7
        try clear c8
        try clear c8b0
        try clear c8b1
        try clear hx108_0
        try clear hx109_0
        try clear p1
        try clear p108
        try clear p109
        try clear p2
        try clear q1
        try clear q108
        try clear q109
        obtain ⟨kq, x5_5, rfl, HA, HJ5, HB⟩ := hcut
        cases kq with
        | zero => exact absurd HA.out (by simp [text_Align_MarkdownProperty.j1])
        | succ kj5 =>
          have H := HA.out
          clear HA
          simp only [text_Align_MarkdownProperty.j1] at H
          replace H := Option.bind_eq_some_iff.mp H
          obtain ⟨t110, A90, H⟩ := H
          replace H : (if a0 = 1 then (if 1 + t110.size ≤ 9223372036854775807 then (if ((⟨#[58]⟩ : ByteArray) ++ t110).size + 1 ≤ 9223372036854775807 then (some (((⟨#[58]⟩ : ByteArray) ++ t110) ++ (⟨#[32]⟩ : ByteArray))) else (none)) else (none)) else (if a0 = 2 then (if 1 + t110.size ≤ 9223372036854775807 then (if ((⟨#[58]⟩ : ByteArray) ++ t110).size + 1 ≤ 9223372036854775807 then (some (((⟨#[58]⟩ : ByteArray) ++ t110) ++ (⟨#[58]⟩ : ByteArray))) else (none)) else (none)) else (if a0 = 4 then (if 1 + t110.size ≤ 9223372036854775807 then (if ((⟨#[32]⟩ : ByteArray) ++ t110).size + 1 ≤ 9223372036854775807 then (some (((⟨#[32]⟩ : ByteArray) ++ t110) ++ (⟨#[58]⟩ : ByteArray))) else (none)) else (none)) else (if 1 + t110.size ≤ 9223372036854775807 then (if ((⟨#[32]⟩ : ByteArray) ++ t110).size + 1 ≤ 9223372036854775807 then (some (((⟨#[32]⟩ : ByteArray) ++ t110) ++ (⟨#[32]⟩ : ByteArray))) else (none)) else (none))))) = some r := H
          have A9 := Aside0.mk A90
          clear A90
          by_cases c10 : a0 = 1
          · rw [if_pos c10] at H
            have c10b0 : (a0 == 1) = true := beq_iff_eq.mpr c10
            have c10b1 : (a0 != 1) = false := bne_eq_false_iff_eq.mpr c10
            clear c10
            by_cases c11 : 1 + t110.size ≤ 9223372036854775807
            · rw [if_pos c11] at H
              have c11b0 := eq_true c11
              have c11b1 : decide (1 + t110.size ≤ 9223372036854775807) = true := decide_eq_true c11
              try have c11b2 : (9223372036854775807 < 1 + t110.size) = False := eq_false (Nat.not_lt.2 c11)
              by_cases c12 : ((⟨#[58]⟩ : ByteArray) ++ t110).size + 1 ≤ 9223372036854775807
              · rw [if_pos c12] at H
                have c12b0 := eq_true c12
                have c12b1 : decide (((⟨#[58]⟩ : ByteArray) ++ t110).size + 1 ≤ 9223372036854775807) = true := decide_eq_true c12
                try have c12b2 : (9223372036854775807 < ((⟨#[58]⟩ : ByteArray) ++ t110).size + 1) = False := eq_false (Nat.not_lt.2 c12)
                try have c12b3 : (9223372036854775807 < 1 + t110.size + 1) = False := eq_false (Nat.not_lt.2 (by have z_ := c12; simp only [ByteArray.size_append] at z_; exact z_))
                obtain rfl := Option.some.inj H
                go_wp2_with (first | ((with_reducible refine gate_callee (f := 21) rfl ?_); refine goesL_ (some 21) rfl rfl Try.func21 (by kernel_rfl) rfl #[.string (⟨#[45]⟩ : ByteArray), .int .i64 x5_5] rfl (by (try simp only [List.map_toArray, List.map_cons, List.map_nil]); first | done | rfl | (simp only [List.length_drop, List.length_take]; rfl)) ?_; (with_reducible refine (strings_Repeat.calls (⟨#[45]⟩ : ByteArray) x5_5 t110 _ A9.out).mono ?_); rintro e w13 ⟨rfl, hb⟩; refine ⟨_, rfl, ?_⟩; have n0_ := Aside0.mk (below_step (by repeat (first | (with_reducible first | exact HB.out | apply below_alloc | apply pw_below_drewN | apply below_drew1) | exact HB.out)) hb); clear HB; have HB := n0_; clear n0_; (try clear hb); (try clear hb2); (try clear hk); (try clear hi)))
                go_ret
                exact ⟨by first | rfl | (simp [errW_none, errW_some] <;> rfl) | (simp [*, errW_none, errW_some] <;> rfl), by repeat (first | (with_reducible first | exact HB.out | apply below_alloc | apply pw_below_drewN | apply below_drew1) | exact HB.out)⟩
              · rw [if_neg c12] at H
                exact absurd H (by simp)
            · rw [if_neg c11] at H
              exact absurd H (by simp)
          · rw [if_neg c10] at H
            have c10b0 : (a0 == 1) = false := beq_eq_false_iff_ne.mpr c10
            have c10b1 : (a0 != 1) = true := bne_iff_ne.mpr c10
            by_cases c14 : a0 = 2
            · rw [if_pos c14] at H
              have c14b0 : (a0 == 2) = true := beq_iff_eq.mpr c14
              have c14b1 : (a0 != 2) = false := bne_eq_false_iff_eq.mpr c14
              clear c14
              by_cases c15 : 1 + t110.size ≤ 9223372036854775807
              · rw [if_pos c15] at H
                have c15b0 := eq_true c15
                have c15b1 : decide (1 + t110.size ≤ 9223372036854775807) = true := decide_eq_true c15
                try have c15b2 : (9223372036854775807 < 1 + t110.size) = False := eq_false (Nat.not_lt.2 c15)
                by_cases c16 : ((⟨#[58]⟩ : ByteArray) ++ t110).size + 1 ≤ 9223372036854775807
                · rw [if_pos c16] at H
                  have c16b0 := eq_true c16
                  have c16b1 : decide (((⟨#[58]⟩ : ByteArray) ++ t110).size + 1 ≤ 9223372036854775807) = true := decide_eq_true c16
                  try have c16b2 : (9223372036854775807 < ((⟨#[58]⟩ : ByteArray) ++ t110).size + 1) = False := eq_false (Nat.not_lt.2 c16)
                  try have c16b3 : (9223372036854775807 < 1 + t110.size + 1) = False := eq_false (Nat.not_lt.2 (by have z_ := c16; simp only [ByteArray.size_append] at z_; exact z_))
                  obtain rfl := Option.some.inj H
                  go_wp2_with (first | ((with_reducible refine gate_callee (f := 21) rfl ?_); refine goesL_ (some 21) rfl rfl Try.func21 (by kernel_rfl) rfl #[.string (⟨#[45]⟩ : ByteArray), .int .i64 x5_5] rfl (by (try simp only [List.map_toArray, List.map_cons, List.map_nil]); first | done | rfl | (simp only [List.length_drop, List.length_take]; rfl)) ?_; (with_reducible refine (strings_Repeat.calls (⟨#[45]⟩ : ByteArray) x5_5 t110 _ A9.out).mono ?_); rintro e w17 ⟨rfl, hb⟩; refine ⟨_, rfl, ?_⟩; have n0_ := Aside0.mk (below_step (by repeat (first | (with_reducible first | exact HB.out | apply below_alloc | apply pw_below_drewN | apply below_drew1) | exact HB.out)) hb); clear HB; have HB := n0_; clear n0_; (try clear hb); (try clear hb2); (try clear hk); (try clear hi)))
                  go_ret
                  exact ⟨by first | rfl | (simp [errW_none, errW_some] <;> rfl) | (simp [*, errW_none, errW_some] <;> rfl), by repeat (first | (with_reducible first | exact HB.out | apply below_alloc | apply pw_below_drewN | apply below_drew1) | exact HB.out)⟩
                · rw [if_neg c16] at H
                  exact absurd H (by simp)
              · rw [if_neg c15] at H
                exact absurd H (by simp)
            · rw [if_neg c14] at H
              have c14b0 : (a0 == 2) = false := beq_eq_false_iff_ne.mpr c14
              have c14b1 : (a0 != 2) = true := bne_iff_ne.mpr c14
              by_cases c18 : a0 = 4
              · rw [if_pos c18] at H
                have c18b0 : (a0 == 4) = true := beq_iff_eq.mpr c18
                have c18b1 : (a0 != 4) = false := bne_eq_false_iff_eq.mpr c18
                clear c18
                by_cases c19 : 1 + t110.size ≤ 9223372036854775807
                · rw [if_pos c19] at H
                  have c19b0 := eq_true c19
                  have c19b1 : decide (1 + t110.size ≤ 9223372036854775807) = true := decide_eq_true c19
                  try have c19b2 : (9223372036854775807 < 1 + t110.size) = False := eq_false (Nat.not_lt.2 c19)
                  by_cases c20 : ((⟨#[32]⟩ : ByteArray) ++ t110).size + 1 ≤ 9223372036854775807
                  · rw [if_pos c20] at H
                    have c20b0 := eq_true c20
                    have c20b1 : decide (((⟨#[32]⟩ : ByteArray) ++ t110).size + 1 ≤ 9223372036854775807) = true := decide_eq_true c20
                    try have c20b2 : (9223372036854775807 < ((⟨#[32]⟩ : ByteArray) ++ t110).size + 1) = False := eq_false (Nat.not_lt.2 c20)
                    try have c20b3 : (9223372036854775807 < 1 + t110.size + 1) = False := eq_false (Nat.not_lt.2 (by have z_ := c20; simp only [ByteArray.size_append] at z_; exact z_))
                    obtain rfl := Option.some.inj H
                    go_wp2_with (first | ((with_reducible refine gate_callee (f := 21) rfl ?_); refine goesL_ (some 21) rfl rfl Try.func21 (by kernel_rfl) rfl #[.string (⟨#[45]⟩ : ByteArray), .int .i64 x5_5] rfl (by (try simp only [List.map_toArray, List.map_cons, List.map_nil]); first | done | rfl | (simp only [List.length_drop, List.length_take]; rfl)) ?_; (with_reducible refine (strings_Repeat.calls (⟨#[45]⟩ : ByteArray) x5_5 t110 _ A9.out).mono ?_); rintro e w21 ⟨rfl, hb⟩; refine ⟨_, rfl, ?_⟩; have n0_ := Aside0.mk (below_step (by repeat (first | (with_reducible first | exact HB.out | apply below_alloc | apply pw_below_drewN | apply below_drew1) | exact HB.out)) hb); clear HB; have HB := n0_; clear n0_; (try clear hb); (try clear hb2); (try clear hk); (try clear hi)))
                    go_ret
                    exact ⟨by first | rfl | (simp [errW_none, errW_some] <;> rfl) | (simp [*, errW_none, errW_some] <;> rfl), by repeat (first | (with_reducible first | exact HB.out | apply below_alloc | apply pw_below_drewN | apply below_drew1) | exact HB.out)⟩
                  · rw [if_neg c20] at H
                    exact absurd H (by simp)
                · rw [if_neg c19] at H
                  exact absurd H (by simp)
              · rw [if_neg c18] at H
                have c18b0 : (a0 == 4) = false := beq_eq_false_iff_ne.mpr c18
                have c18b1 : (a0 != 4) = true := bne_iff_ne.mpr c18
                by_cases c22 : 1 + t110.size ≤ 9223372036854775807
                · rw [if_pos c22] at H
                  have c22b0 := eq_true c22
                  have c22b1 : decide (1 + t110.size ≤ 9223372036854775807) = true := decide_eq_true c22
                  try have c22b2 : (9223372036854775807 < 1 + t110.size) = False := eq_false (Nat.not_lt.2 c22)
                  by_cases c23 : ((⟨#[32]⟩ : ByteArray) ++ t110).size + 1 ≤ 9223372036854775807
                  · rw [if_pos c23] at H
                    have c23b0 := eq_true c23
                    have c23b1 : decide (((⟨#[32]⟩ : ByteArray) ++ t110).size + 1 ≤ 9223372036854775807) = true := decide_eq_true c23
                    try have c23b2 : (9223372036854775807 < ((⟨#[32]⟩ : ByteArray) ++ t110).size + 1) = False := eq_false (Nat.not_lt.2 c23)
                    try have c23b3 : (9223372036854775807 < 1 + t110.size + 1) = False := eq_false (Nat.not_lt.2 (by have z_ := c23; simp only [ByteArray.size_append] at z_; exact z_))
                    obtain rfl := Option.some.inj H
                    go_wp2_with (first | ((with_reducible refine gate_callee (f := 21) rfl ?_); refine goesL_ (some 21) rfl rfl Try.func21 (by kernel_rfl) rfl #[.string (⟨#[45]⟩ : ByteArray), .int .i64 x5_5] rfl (by (try simp only [List.map_toArray, List.map_cons, List.map_nil]); first | done | rfl | (simp only [List.length_drop, List.length_take]; rfl)) ?_; (with_reducible refine (strings_Repeat.calls (⟨#[45]⟩ : ByteArray) x5_5 t110 _ A9.out).mono ?_); rintro e w24 ⟨rfl, hb⟩; refine ⟨_, rfl, ?_⟩; have n0_ := Aside0.mk (below_step (by repeat (first | (with_reducible first | exact HB.out | apply below_alloc | apply pw_below_drewN | apply below_drew1) | exact HB.out)) hb); clear HB; have HB := n0_; clear n0_; (try clear hb); (try clear hb2); (try clear hk); (try clear hi)))
                    go_ret
                    exact ⟨by first | rfl | (simp [errW_none, errW_some] <;> rfl) | (simp [*, errW_none, errW_some] <;> rfl), by repeat (first | (with_reducible first | exact HB.out | apply below_alloc | apply pw_below_drewN | apply below_drew1) | exact HB.out)⟩
                  · rw [if_neg c23] at H
                    exact absurd H (by simp)
                · rw [if_neg c22] at H
                  exact absurd H (by simp)

/-! ### impl_TextAlignMarkdown: function 10 -/
def impl_TextAlignMarkdown.f (k : Nat) (a0 : Int) (l1 : List Int) : Option (ByteArray) := (text_Align_MarkdownProperty.f k a0 l1).bind fun t111 => (some t111)
theorem impl_TextAlignMarkdown.mono : ∀ a0 a1 k, LeO (impl_TextAlignMarkdown.f k a0 a1) (impl_TextAlignMarkdown.f (k + 1) a0 a1) := by
  intro a0 a1 k
  unfold impl_TextAlignMarkdown.f
  repeat' first
      | (with_reducible exact text_Align_MarkdownProperty.mono _ _ _)
      | (with_reducible exact LeO.refl _)
      | (with_reducible exact LeO.none _)
      | (with_reducible refine LeO.ite ?_ ?_)
      | (with_reducible refine LeO.bind ?_ (fun _ => ?_))
      | exact text_Align_MarkdownProperty.mono _ _ _
      | exact LeO.none _
      | refine LeO.ite ?_ ?_
      | refine LeO.bind ?_ (fun _ => ?_)
set_option maxHeartbeats 8000000 in
set_option maxRecDepth 100000 in
theorem impl_TextAlignMarkdown.calls (k : Nat) (a0 : Int) (A1 : Option Addr) (c1 : Nat) (l1 : List Int) (r : ByteArray) (w : World) (hr1 : Kd.C (Kd.int .i64) w A1 l1.length l1) (hc1 : l1.length ≤ c1) (h : impl_TextAlignMarkdown.f k a0 l1 = some r) :
    Calls Try.prog 10 #[.int .i64 a0, .slice A1 l1.length c1] w fun e w' => e = .returned (.string r) ∧ Below w.heap.size w w' := by
  have HR1 := Aside0.mk hr1
  have HC1 := Aside0.mk hc1
  clear hr1 hc1
  have HB := Aside0.mk (Below.refl w.heap.size w)
  have H : ((text_Align_MarkdownProperty.f k a0 l1).bind fun t111 => (some t111)) = some r := h
  clear h
  replace H := Option.bind_eq_some_iff.mp H
  obtain ⟨t111, A30, H⟩ := H
  replace H : (some t111) = some r := H
  have A3 := Aside0.mk A30
  clear A30
  obtain rfl := Option.some.inj H
  go_enter Try.func10, Try.ntmps10
  go_wp2_with (first | ((with_reducible refine gate_callee (f := 16) rfl ?_); refine goesL_ (some 7) rfl rfl Try.func16 (by kernel_rfl) rfl #[.int .i64 a0, .slice A1 l1.length c1] rfl (by (try simp only [List.map_toArray, List.map_cons, List.map_nil]); first | done | rfl | (simp only [List.length_drop, List.length_take]; rfl)) ?_; (with_reducible refine (text_Align_MarkdownProperty.calls k a0 _ _ l1 t111 _ ?side1 ?side2 A3.out).mono ?_); (case side1 => repeat (first | exact HR1.out | (with_reducible refine Kd.C_alloc ?_ _) | (with_reducible refine Kd.C_drewN ?_ _) | (with_reducible refine Kd.C_drew ?_))); (case side2 => exact HC1.out); rintro e w4 ⟨rfl, hb⟩; refine ⟨_, rfl, ?_⟩; have n0_ := Aside0.mk (below_step (by repeat (first | (with_reducible first | exact HB.out | apply below_alloc | apply pw_below_drewN | apply below_drew1) | exact HB.out)) hb); clear HB; have HB := n0_; clear n0_; (try clear hb); (try clear hb2); (try clear hk); (try clear hi)))
  go_ret
  exact ⟨by first | rfl | (simp [errW_none, errW_some] <;> rfl) | (simp [*, errW_none, errW_some] <;> rfl), by repeat (first | (with_reducible first | exact HB.out | apply below_alloc | apply pw_below_drewN | apply below_drew1) | exact HB.out)⟩

-- BY HAND: function 11 (impl_MarkdownSeparator)

end Go.Proofs.Ytedknmaaaaomoaa.PFnMarkdownSeparator
