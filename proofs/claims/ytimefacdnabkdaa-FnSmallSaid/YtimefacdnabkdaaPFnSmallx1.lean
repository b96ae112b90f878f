-- PRINTED BY print.sh 35421559b90ae4d0a3588c463048766b98c2df88dd9212a6774a882060cdf62d: not written by this session
import Derived.Test.YtimefacdnabkdaaPFnSmallx0
namespace Go.Proofs.Ytimefacdnabkdaa.PFnSmall
open Go.RowKit Go.Proofs.YtimefacdnabkdaaW.PrintWords Go.Proofs.YtimefacdnabkdaaW.PrintLast Go.Proofs.YtimefacdnabkdaaW.PrintMore
attribute [local go_sem] max2_int min2_int max_two min_two max_three min_three max_four min_four   -- for this text's walks alone
set_option linter.unusedVariables false
set_option linter.unusedSimpArgs false

/-! ### tw_Max: function 27 -/
def tw_Max.f (a0 : Int) (a1 : Int) : Option (Int) := if a0 > a1 then (some a0) else (some a1)
set_option maxHeartbeats 8000000 in
set_option maxRecDepth 100000 in
theorem tw_Max.calls (a0 : Int) (a1 : Int) (r : Int) (w : World) (h : tw_Max.f a0 a1 = some r) :
    Calls Try.prog 27 #[.int .i64 a0, .int .i64 a1] w fun e w' => e = .returned (.int .i64 r) ∧ Drawn0 w w' := by
  have H : (if a0 > a1 then (some a0) else (some a1)) = some r := h
  clear h
  by_cases c3 : a0 > a1
  · rw [if_pos c3] at H
    have c3b0 : decide (a1 < a0) = true := decide_eq_true c3
    clear c3
    obtain rfl := Option.some.inj H
    go_enter Try.func27, Try.ntmps27
    go_wp2
    go_ret
    exact ⟨by first | rfl | (simp; done) | (simp [*]; done), by repeat (first | exact Drawn0.refl _ | apply Drawn0.step)⟩
  · rw [if_neg c3] at H
    have c3b0 : decide (a1 < a0) = false := decide_eq_false c3
    clear c3
    obtain rfl := Option.some.inj H
    go_enter Try.func27, Try.ntmps27
    go_wp2
    go_ret
    exact ⟨by first | rfl | (simp; done) | (simp [*]; done), by repeat (first | exact Drawn0.refl _ | apply Drawn0.step)⟩

/-! ### impl_TwMax: function 15 -/
def impl_TwMax.f (a0 : Int) (a1 : Int) : Option (Int) := (tw_Max.f a0 a1).bind fun t101 => (some t101)
set_option maxHeartbeats 8000000 in
set_option maxRecDepth 100000 in
theorem impl_TwMax.calls (a0 : Int) (a1 : Int) (r : Int) (w : World) (h : impl_TwMax.f a0 a1 = some r) :
    Calls Try.prog 15 #[.int .i64 a0, .int .i64 a1] w fun e w' => e = .returned (.int .i64 r) ∧ Drawn0 w w' := by
  have H : ((tw_Max.f a0 a1).bind fun t101 => (some t101)) = some r := h
  clear h
  replace H := Option.bind_eq_some_iff.mp H
  obtain ⟨t101, A30, H⟩ := H
  replace H : (some t101) = some r := H
  have A3 := Aside0.mk A30
  clear A30
  obtain rfl := Option.some.inj H
  go_enter Try.func15, Try.ntmps15
  go_wp2_with (first | ((with_reducible refine gate_callee (f := 27) rfl ?_); refine goesL_ (some 7) rfl rfl Try.func27 (by kernel_rfl) rfl #[.int .i64 a0, .int .i64 a1] rfl (by (try simp only [List.map_toArray, List.map_cons, List.map_nil]); first | done | rfl | (simp only [List.length_drop, List.length_take]; rfl)) ?_; (with_reducible refine (tw_Max.calls a0 a1 t101 _ A3.out).mono ?_); rintro e w' ⟨rfl, ⟨nd, rfl⟩⟩; refine ⟨_, rfl, ?_⟩))
  go_ret
  exact ⟨by first | rfl | (simp; done) | (simp [*]; done), by repeat (first | exact Drawn0.refl _ | apply Drawn0.step)⟩

/-! ### tw_Min: function 28 -/
def tw_Min.f (a0 : Int) (a1 : Int) : Option (Int) := if a0 < a1 then (some a0) else (some a1)
set_option maxHeartbeats 8000000 in
set_option maxRecDepth 100000 in
theorem tw_Min.calls (a0 : Int) (a1 : Int) (r : Int) (w : World) (h : tw_Min.f a0 a1 = some r) :
    Calls Try.prog 28 #[.int .i64 a0, .int .i64 a1] w fun e w' => e = .returned (.int .i64 r) ∧ Drawn0 w w' := by
  have H : (if a0 < a1 then (some a0) else (some a1)) = some r := h
  clear h
  by_cases c3 : a0 < a1
  · rw [if_pos c3] at H
    have c3b0 : decide (a0 < a1) = true := decide_eq_true c3
    clear c3
    obtain rfl := Option.some.inj H
    go_enter Try.func28, Try.ntmps28
    go_wp2
    go_ret
    exact ⟨by first | rfl | (simp; done) | (simp [*]; done), by repeat (first | exact Drawn0.refl _ | apply Drawn0.step)⟩
  · rw [if_neg c3] at H
    have c3b0 : decide (a0 < a1) = false := decide_eq_false c3
    clear c3
    obtain rfl := Option.some.inj H
    go_enter Try.func28, Try.ntmps28
    go_wp2
    go_ret
    exact ⟨by first | rfl | (simp; done) | (simp [*]; done), by repeat (first | exact Drawn0.refl _ | apply Drawn0.step)⟩

/-! ### impl_TwMin: function 16 -/
def impl_TwMin.f (a0 : Int) (a1 : Int) : Option (Int) := (tw_Min.f a0 a1).bind fun t102 => (some t102)
set_option maxHeartbeats 8000000 in
set_option maxRecDepth 100000 in
theorem impl_TwMin.calls (a0 : Int) (a1 : Int) (r : Int) (w : World) (h : impl_TwMin.f a0 a1 = some r) :
    Calls Try.prog 16 #[.int .i64 a0, .int .i64 a1] w fun e w' => e = .returned (.int .i64 r) ∧ Drawn0 w w' := by
  have H : ((tw_Min.f a0 a1).bind fun t102 => (some t102)) = some r := h
  clear h
  replace H := Option.bind_eq_some_iff.mp H
  obtain ⟨t102, A30, H⟩ := H
  replace H : (some t102) = some r := H
  have A3 := Aside0.mk A30
  clear A30
  obtain rfl := Option.some.inj H
  go_enter Try.func16, Try.ntmps16
  go_wp2_with (first | ((with_reducible refine gate_callee (f := 28) rfl ?_); refine goesL_ (some 7) rfl rfl Try.func28 (by kernel_rfl) rfl #[.int .i64 a0, .int .i64 a1] rfl (by (try simp only [List.map_toArray, List.map_cons, List.map_nil]); first | done | rfl | (simp only [List.length_drop, List.length_take]; rfl)) ?_; (with_reducible refine (tw_Min.calls a0 a1 t102 _ A3.out).mono ?_); rintro e w' ⟨rfl, ⟨nd, rfl⟩⟩; refine ⟨_, rfl, ?_⟩))
  go_ret
  exact ⟨by first | rfl | (simp; done) | (simp [*]; done), by repeat (first | exact Drawn0.refl _ | apply Drawn0.step)⟩

/-! ### tw_Or: function 29 -/
def tw_Or.f (a0 : Bool) (a1 : ByteArray) (a2 : ByteArray) : Option (ByteArray) := if a0 = true then (some a1) else (some a2)
set_option maxHeartbeats 8000000 in
set_option maxRecDepth 100000 in
theorem tw_Or.calls (a0 : Bool) (a1 : ByteArray) (a2 : ByteArray) (r : ByteArray) (w : World) (h : tw_Or.f a0 a1 a2 = some r) :
    Calls Try.prog 29 #[.bool a0, .string a1, .string a2] w fun e w' => e = .returned (.string r) ∧ Drawn0 w w' := by
  have H : (if a0 = true then (some a1) else (some a2)) = some r := h
  clear h
  by_cases c4 : a0 = true
  · subst c4
    have H1 : (some a1) = some r := by rw [if_pos rfl] at H; exact H
    clear H
    have H := H1
    clear H1
    obtain rfl := Option.some.inj H
    go_enter Try.func29, Try.ntmps29
    go_wp2
    go_ret
    exact ⟨by first | rfl | (simp; done) | (simp [*]; done), by repeat (first | exact Drawn0.refl _ | apply Drawn0.step)⟩
  · replace c4 := Bool.eq_false_iff.mpr c4
    subst c4
    have H1 : (some a2) = some r := by rw [if_neg (show ¬ (false = true) by decide)] at H; exact H
    clear H
    have H := H1
    clear H1
    obtain rfl := Option.some.inj H
    go_enter Try.func29, Try.ntmps29
    go_wp2
    go_ret
    exact ⟨by first | rfl | (simp; done) | (simp [*]; done), by repeat (first | exact Drawn0.refl _ | apply Drawn0.step)⟩

/-! ### impl_TwOr: function 17 -/
def impl_TwOr.f (a0 : Bool) (a1 : ByteArray) (a2 : ByteArray) : Option (ByteArray) := (tw_Or.f a0 a1 a2).bind fun t103 => (some t103)
set_option maxHeartbeats 8000000 in
set_option maxRecDepth 100000 in
theorem impl_TwOr.calls (a0 : Bool) (a1 : ByteArray) (a2 : ByteArray) (r : ByteArray) (w : World) (h : impl_TwOr.f a0 a1 a2 = some r) :
    Calls Try.prog 17 #[.bool a0, .string a1, .string a2] w fun e w' => e = .returned (.string r) ∧ Drawn0 w w' := by
  have H : ((tw_Or.f a0 a1 a2).bind fun t103 => (some t103)) = some r := h
  clear h
  replace H := Option.bind_eq_some_iff.mp H
  obtain ⟨t103, A40, H⟩ := H
  replace H : (some t103) = some r := H
  have A4 := Aside0.mk A40
  clear A40
  obtain rfl := Option.some.inj H
  go_enter Try.func17, Try.ntmps17
  go_wp2_with (first | ((with_reducible refine gate_callee (f := 29) rfl ?_); refine goesL_ (some 10) rfl rfl Try.func29 (by kernel_rfl) rfl #[.bool a0, .string a1, .string a2] rfl (by (try simp only [List.map_toArray, List.map_cons, List.map_nil]); first | done | rfl | (simp only [List.length_drop, List.length_take]; rfl)) ?_; (with_reducible refine (tw_Or.calls a0 a1 a2 t103 _ A4.out).mono ?_); rintro e w' ⟨rfl, ⟨nd, rfl⟩⟩; refine ⟨_, rfl, ?_⟩))
  go_ret
  exact ⟨by first | rfl | (simp; done) | (simp [*]; done), by repeat (first | exact Drawn0.refl _ | apply Drawn0.step)⟩

/-! ### laws_FnSmall: function 7 -/
def laws_FnSmall.j0 : Nat → Int → Int → Bool → ByteArray → ByteArray → Bool → Option (Bool)
  | 0, _, _, _, _, _, _ => none
  | k + 1, x0, x1, x2, x3, x4, x19 => if x19 = true then (some true) else (if x2 = true then ((impl_TwMax.f x0 x1).bind fun t104 => (if t104 = (mx x0 x1) then ((impl_TwMin.f x0 x1).bind fun t105 => (if t105 = (mn x0 x1) then ((impl_TwOr.f x2 x3 x4).bind fun t106 => (some (t106.toList == x3.toList))) else (some false))) else (some false))) else ((impl_TwMax.f x0 x1).bind fun t107 => (if t107 = (mx x0 x1) then ((impl_TwMin.f x0 x1).bind fun t108 => (if t108 = (mn x0 x1) then ((impl_TwOr.f x2 x3 x4).bind fun t109 => (some (t109.toList == x4.toList))) else (some false))) else (some false))))
def laws_FnSmall.f (k : Nat) (a0 : Int) (a1 : Int) (a2 : Bool) (a3 : ByteArray) (a4 : ByteArray) : Option (Bool) := if (a3.size : Int) > 2147483647 then (laws_FnSmall.j0 k a0 a1 a2 a3 a4 true) else (laws_FnSmall.j0 k a0 a1 a2 a3 a4 (decide ((a4.size : Int) > 2147483647)))
theorem laws_FnSmall.mono_l : ∀ k, (∀ y0 y1 y2 y3 y4 y5, LeO (laws_FnSmall.j0 k y0 y1 y2 y3 y4 y5) (laws_FnSmall.j0 (k + 1) y0 y1 y2 y3 y4 y5))
  | 0 => fun _ _ _ _ _ _ r h => by simp [laws_FnSmall.j0] at h
  | k + 1 => by
    have ih0 := laws_FnSmall.mono_l k
    · intro y0 y1 y2 y3 y4 y5
      unfold laws_FnSmall.j0
      repeat' first
      | (with_reducible exact ih0 _ _ _ _ _ _)
      | (with_reducible exact LeO.refl _)
      | (with_reducible exact LeO.none _)
      | (with_reducible refine LeO.ite ?_ ?_)
      | (with_reducible refine LeO.bind ?_ (fun _ => ?_))
      | exact ih0 _ _ _ _ _ _
      | exact LeO.none _
      | refine LeO.ite ?_ ?_
      | refine LeO.bind ?_ (fun _ => ?_)
theorem laws_FnSmall.mono : ∀ a0 a1 a2 a3 a4 k, LeO (laws_FnSmall.f k a0 a1 a2 a3 a4) (laws_FnSmall.f (k + 1) a0 a1 a2 a3 a4) := by
  intro a0 a1 a2 a3 a4 k
  have ih0 := laws_FnSmall.mono_l k
  unfold laws_FnSmall.f
  repeat' first
      | (with_reducible exact ih0 _ _ _ _ _ _)
      | (with_reducible exact LeO.refl _)
      | (with_reducible exact LeO.none _)
      | (with_reducible refine LeO.ite ?_ ?_)
      | (with_reducible refine LeO.bind ?_ (fun _ => ?_))
      | exact ih0 _ _ _ _ _ _
      | exact LeO.none _
      | refine LeO.ite ?_ ?_
      | refine LeO.bind ?_ (fun _ => ?_)
set_option maxHeartbeats 8000000 in
set_option maxRecDepth 100000 in
theorem laws_FnSmall.calls (k : Nat) (a0 : Int) (a1 : Int) (a2 : Bool) (a3 : ByteArray) (a4 : ByteArray) (r : Bool) (w : World) (h : laws_FnSmall.f k a0 a1 a2 a3 a4 = some r) :
    Calls Try.prog 7 #[.int .i64 a0, .int .i64 a1, .bool a2, .string a3, .string a4] w fun e w' => e = .returned (.bool r) ∧ Below w.heap.size w w' := by
  have HB := Aside0.mk (Below.refl w.heap.size w)
  have H : (if (a3.size : Int) > 2147483647 then (laws_FnSmall.j0 k a0 a1 a2 a3 a4 true) else (laws_FnSmall.j0 k a0 a1 a2 a3 a4 (decide ((a4.size : Int) > 2147483647)))) = some r := h
  clear h
  have HC6 := Aside0.mk H
  clear H
  go_enter Try.func7, Try.ntmps7
  go_upto_region 1 with (fail)
  go_cut [19] (fun v19 wc => ∃ (kq : Nat) (x19_5 : Bool), v19 = .bool x19_5 ∧ Aside0 (laws_FnSmall.j0 kq a0 a1 a2 a3 a4 x19_5 = some r) ∧ Aside0 (kq ≤ k) ∧ Aside0 (Below w.heap.size w wc))
  case first =>
    have H := HC6.out
    clear HC6
    by_cases c7 : (a3.size : Int) > 2147483647
    · rw [if_pos c7] at H
      have c7b0 : decide (2147483647 < (a3.size : Int)) = true := decide_eq_true c7
      have c7b1 : decide (2147483647 < a3.size) = true := decide_eq_true (by omega)
      clear c7
      (first | rw [c7b0] | (simp only [i64_w, i32_w]; rw [c7b0]) | skip)
      have H' := Aside0.mk H
      clear H
      go_wp2
      go_meet
      case rel => exact ⟨_, (true), (by first | rfl | (simp; done) | (simp [*]; done)), H', ⟨by first | omega | exact Nat.le_refl _⟩, ⟨by repeat (first | (with_reducible first | exact HB.out | apply below_alloc | apply pw_below_drewN | apply below_drew1) | exact HB.out)⟩⟩
    · rw [if_neg c7] at H
      have c7b0 : decide (2147483647 < (a3.size : Int)) = false := decide_eq_false c7
      have c7b1 : decide (2147483647 < a3.size) = false := decide_eq_false (by omega)
      clear c7
      (first | rw [c7b0] | (simp only [i64_w, i32_w]; rw [c7b0]) | skip)
      have H' := Aside0.mk H
      clear H
      go_wp2
      go_meet
      case rel => exact ⟨_, (decide ((a4.size : Int) > 2147483647)), (by first | rfl | (simp; done) | (simp [*]; done)), H', ⟨by first | omega | exact Nat.le_refl _⟩, ⟨by repeat (first | (with_reducible first | exact HB.out | apply below_alloc | apply pw_below_drewN | apply below_drew1) | exact HB.out)⟩⟩
  case rest =>
    clear HC6
    try clear p2
    try clear c7
    try clear c7b0
    try clear c7b1
    obtain ⟨kq, x19_5, rfl, HA, HJ5, HB⟩ := hcut
    cases kq with
    | zero => exact absurd HA.out (by simp [laws_FnSmall.j0])
    | succ kj5 =>
      have H := HA.out
      clear HA
      simp only [laws_FnSmall.j0] at H
      by_cases c8 : x19_5 = true
      · subst c8
        have H1 : (some true) = some r := by rw [if_pos rfl] at H; exact H
        clear H
        have H := H1
        clear H1
        obtain rfl := Option.some.inj H
        go_wp2
        go_ret
        exact ⟨by first | rfl | (simp [errW_none, errW_some] <;> rfl) | (simp [*, errW_none, errW_some] <;> rfl), by repeat (first | (with_reducible first | exact HB.out | apply below_alloc | apply pw_below_drewN | apply below_drew1) | exact HB.out)⟩
      · replace c8 := Bool.eq_false_iff.mpr c8
        subst c8
        have H1 : (if a2 = true then ((impl_TwMax.f a0 a1).bind fun t104 => (if t104 = (mx a0 a1) then ((impl_TwMin.f a0 a1).bind fun t105 => (if t105 = (mn a0 a1) then ((impl_TwOr.f a2 a3 a4).bind fun t106 => (some (t106.toList == a3.toList))) else (some false))) else (some false))) else ((impl_TwMax.f a0 a1).bind fun t107 => (if t107 = (mx a0 a1) then ((impl_TwMin.f a0 a1).bind fun t108 => (if t108 = (mn a0 a1) then ((impl_TwOr.f a2 a3 a4).bind fun t109 => (some (t109.toList == a4.toList))) else (some false))) else (some false)))) = some r := by rw [if_neg (show ¬ (false = true) by decide)] at H; exact H
        clear H
        have H := H1
        clear H1
        by_cases c9 : a2 = true
        · subst c9
          have H1 : ((impl_TwMax.f a0 a1).bind fun t104 => (if t104 = (mx a0 a1) then ((impl_TwMin.f a0 a1).bind fun t105 => (if t105 = (mn a0 a1) then ((impl_TwOr.f true a3 a4).bind fun t106 => (some (t106.toList == a3.toList))) else (some false))) else (some false))) = some r := by rw [if_pos rfl] at H; exact H
          clear H
          have H := H1
          clear H1
          replace H := Option.bind_eq_some_iff.mp H
          obtain ⟨t104, A100, H⟩ := H
          replace H : (if t104 = (mx a0 a1) then ((impl_TwMin.f a0 a1).bind fun t105 => (if t105 = (mn a0 a1) then ((impl_TwOr.f true a3 a4).bind fun t106 => (some (t106.toList == a3.toList))) else (some false))) else (some false)) = some r := H
          have A10 := Aside0.mk A100
          clear A100
          obtain ⟨ji11, hji11⟩ : ∃ j_ : Int, (mx a0 a1) = j_ := ⟨_, rfl⟩
          replace H : (if t104 = (ji11) then ((impl_TwMin.f a0 a1).bind fun t105 => (if t105 = (mn a0 a1) then ((impl_TwOr.f true a3 a4).bind fun t106 => (some (t106.toList == a3.toList))) else (some false))) else (some false)) = some r := by first | (rw [hji11] at H; exact H) | (simp only [hji11] at H ⊢; exact H)
          (try rw [hji11] at A10)
          have hji11_ : (if a0 < a1 then a1 else a0) = ji11 := hji11
          by_cases c12 : t104 = (ji11)
          · rw [if_pos c12] at H
            have c12b0 : (t104 == (ji11)) = true := beq_iff_eq.mpr c12
            have c12b1 : (t104 != (ji11)) = false := bne_eq_false_iff_eq.mpr c12
            clear c12
            replace H := Option.bind_eq_some_iff.mp H
            obtain ⟨t105, A130, H⟩ := H
            replace H : (if t105 = (mn a0 a1) then ((impl_TwOr.f true a3 a4).bind fun t106 => (some (t106.toList == a3.toList))) else (some false)) = some r := H
            have A13 := Aside0.mk A130
            clear A130
            obtain ⟨ji14, hji14⟩ : ∃ j_ : Int, (mn a0 a1) = j_ := ⟨_, rfl⟩
            replace H : (if t105 = (ji14) then ((impl_TwOr.f true a3 a4).bind fun t106 => (some (t106.toList == a3.toList))) else (some false)) = some r := by first | (rw [hji14] at H; exact H) | (simp only [hji14] at H ⊢; exact H)
            (try rw [hji14] at A10)
            (try rw [hji14] at A13)
            have hji14_ : (if a1 < a0 then a1 else a0) = ji14 := hji14
            by_cases c15 : t105 = (ji14)
            · rw [if_pos c15] at H
              have c15b0 : (t105 == (ji14)) = true := beq_iff_eq.mpr c15
              have c15b1 : (t105 != (ji14)) = false := bne_eq_false_iff_eq.mpr c15
              clear c15
              replace H := Option.bind_eq_some_iff.mp H
              obtain ⟨t106, A160, H⟩ := H
              replace H : (some (t106.toList == a3.toList)) = some r := H
              have A16 := Aside0.mk A160
              clear A160
              obtain rfl := Option.some.inj H
              go_wp2_with (first | ((with_reducible refine gate_callee (f := 15) rfl ?_); refine goesL_ (some 25) rfl rfl Try.func15 (by kernel_rfl) rfl #[.int .i64 a0, .int .i64 a1] rfl (by (try simp only [List.map_toArray, List.map_cons, List.map_nil]); first | done | rfl | (simp only [List.length_drop, List.length_take]; rfl)) ?_; (with_reducible refine (impl_TwMax.calls a0 a1 t104 _ A10.out).mono ?_); rintro e w' ⟨rfl, ⟨nd, rfl⟩⟩; refine ⟨_, rfl, ?_⟩) | (go_at_call 16; (with_reducible refine (impl_TwMin.calls a0 a1 t105 _ A13.out).mono ?_); rintro e w' ⟨rfl, ⟨nd, rfl⟩⟩) | (go_at_call 17; (with_reducible refine (impl_TwOr.calls true a3 a4 t106 _ A16.out).mono ?_); rintro e w' ⟨rfl, ⟨nd, rfl⟩⟩))
              go_ret
              exact ⟨by first | rfl | (simp [errW_none, errW_some] <;> rfl) | (simp only [← hji11, ← hji14]; first | rfl | (simp [errW_none, errW_some] <;> rfl)) | (simp [*, errW_none, errW_some] <;> rfl), by repeat (first | (with_reducible first | exact HB.out | apply below_alloc | apply pw_below_drewN | apply below_drew1) | exact HB.out)⟩
            · rw [if_neg c15] at H
              have c15b0 : (t105 == (ji14)) = false := beq_eq_false_iff_ne.mpr c15
              have c15b1 : (t105 != (ji14)) = true := bne_iff_ne.mpr c15
              obtain rfl := Option.some.inj H
              go_wp2_with (first | ((with_reducible refine gate_callee (f := 15) rfl ?_); refine goesL_ (some 25) rfl rfl Try.func15 (by kernel_rfl) rfl #[.int .i64 a0, .int .i64 a1] rfl (by (try simp only [List.map_toArray, List.map_cons, List.map_nil]); first | done | rfl | (simp only [List.length_drop, List.length_take]; rfl)) ?_; (with_reducible refine (impl_TwMax.calls a0 a1 t104 _ A10.out).mono ?_); rintro e w' ⟨rfl, ⟨nd, rfl⟩⟩; refine ⟨_, rfl, ?_⟩) | (go_at_call 16; (with_reducible refine (impl_TwMin.calls a0 a1 t105 _ A13.out).mono ?_); rintro e w' ⟨rfl, ⟨nd, rfl⟩⟩))
              go_ret
              exact ⟨by first | rfl | (simp [errW_none, errW_some] <;> rfl) | (simp only [← hji11, ← hji14]; first | rfl | (simp [errW_none, errW_some] <;> rfl)) | (simp [*, errW_none, errW_some] <;> rfl), by repeat (first | (with_reducible first | exact HB.out | apply below_alloc | apply pw_below_drewN | apply below_drew1) | exact HB.out)⟩
          · rw [if_neg c12] at H
            have c12b0 : (t104 == (ji11)) = false := beq_eq_false_iff_ne.mpr c12
            have c12b1 : (t104 != (ji11)) = true := bne_iff_ne.mpr c12
            obtain rfl := Option.some.inj H
            go_wp2_with (first | ((with_reducible refine gate_callee (f := 15) rfl ?_); refine goesL_ (some 25) rfl rfl Try.func15 (by kernel_rfl) rfl #[.int .i64 a0, .int .i64 a1] rfl (by (try simp only [List.map_toArray, List.map_cons, List.map_nil]); first | done | rfl | (simp only [List.length_drop, List.length_take]; rfl)) ?_; (with_reducible refine (impl_TwMax.calls a0 a1 t104 _ A10.out).mono ?_); rintro e w' ⟨rfl, ⟨nd, rfl⟩⟩; refine ⟨_, rfl, ?_⟩))
            go_ret
            exact ⟨by first | rfl | (simp [errW_none, errW_some] <;> rfl) | (simp only [← hji11]; first | rfl | (simp [errW_none, errW_some] <;> rfl)) | (simp [*, errW_none, errW_some] <;> rfl), by repeat (first | (with_reducible first | exact HB.out | apply below_alloc | apply pw_below_drewN | apply below_drew1) | exact HB.out)⟩
        · replace c9 := Bool.eq_false_iff.mpr c9
          subst c9
          have H1 : ((impl_TwMax.f a0 a1).bind fun t107 => (if t107 = (mx a0 a1) then ((impl_TwMin.f a0 a1).bind fun t108 => (if t108 = (mn a0 a1) then ((impl_TwOr.f false a3 a4).bind fun t109 => (some (t109.toList == a4.toList))) else (some false))) else (some false))) = some r := by rw [if_neg (show ¬ (false = true) by decide)] at H; exact H
          clear H
          have H := H1
          clear H1
          replace H := Option.bind_eq_some_iff.mp H
          obtain ⟨t107, A170, H⟩ := H
          replace H : (if t107 = (mx a0 a1) then ((impl_TwMin.f a0 a1).bind fun t108 => (if t108 = (mn a0 a1) then ((impl_TwOr.f false a3 a4).bind fun t109 => (some (t109.toList == a4.toList))) else (some false))) else (some false)) = some r := H
          have A17 := Aside0.mk A170
          clear A170
          obtain ⟨ji18, hji18⟩ : ∃ j_ : Int, (mx a0 a1) = j_ := ⟨_, rfl⟩
          replace H : (if t107 = (ji18) then ((impl_TwMin.f a0 a1).bind fun t108 => (if t108 = (mn a0 a1) then ((impl_TwOr.f false a3 a4).bind fun t109 => (some (t109.toList == a4.toList))) else (some false))) else (some false)) = some r := by first | (rw [hji18] at H; exact H) | (simp only [hji18] at H ⊢; exact H)
          (try rw [hji18] at A17)
          have hji18_ : (if a0 < a1 then a1 else a0) = ji18 := hji18
          by_cases c19 : t107 = (ji18)
          · rw [if_pos c19] at H
            have c19b0 : (t107 == (ji18)) = true := beq_iff_eq.mpr c19
            have c19b1 : (t107 != (ji18)) = false := bne_eq_false_iff_eq.mpr c19
            clear c19
            replace H := Option.bind_eq_some_iff.mp H
            obtain ⟨t108, A200, H⟩ := H
            replace H : (if t108 = (mn a0 a1) then ((impl_TwOr.f false a3 a4).bind fun t109 => (some (t109.toList == a4.toList))) else (some false)) = some r := H
            have A20 := Aside0.mk A200
            clear A200
            obtain ⟨ji21, hji21⟩ : ∃ j_ : Int, (mn a0 a1) = j_ := ⟨_, rfl⟩
            replace H : (if t108 = (ji21) then ((impl_TwOr.f false a3 a4).bind fun t109 => (some (t109.toList == a4.toList))) else (some false)) = some r := by first | (rw [hji21] at H; exact H) | (simp only [hji21] at H ⊢; exact H)
            (try rw [hji21] at A17)
            (try rw [hji21] at A20)
            have hji21_ : (if a1 < a0 then a1 else a0) = ji21 := hji21
            by_cases c22 : t108 = (ji21)
            · rw [if_pos c22] at H
              have c22b0 : (t108 == (ji21)) = true := beq_iff_eq.mpr c22
              have c22b1 : (t108 != (ji21)) = false := bne_eq_false_iff_eq.mpr c22
              clear c22
              replace H := Option.bind_eq_some_iff.mp H
              obtain ⟨t109, A230, H⟩ := H
              replace H : (some (t109.toList == a4.toList)) = some r := H
              have A23 := Aside0.mk A230
              clear A230
              obtain rfl := Option.some.inj H
              go_wp2_with (first | ((with_reducible refine gate_callee (f := 15) rfl ?_); refine goesL_ (some 25) rfl rfl Try.func15 (by kernel_rfl) rfl #[.int .i64 a0, .int .i64 a1] rfl (by (try simp only [List.map_toArray, List.map_cons, List.map_nil]); first | done | rfl | (simp only [List.length_drop, List.length_take]; rfl)) ?_; (with_reducible refine (impl_TwMax.calls a0 a1 t107 _ A17.out).mono ?_); rintro e w' ⟨rfl, ⟨nd, rfl⟩⟩; refine ⟨_, rfl, ?_⟩) | (go_at_call 16; (with_reducible refine (impl_TwMin.calls a0 a1 t108 _ A20.out).mono ?_); rintro e w' ⟨rfl, ⟨nd, rfl⟩⟩) | (go_at_call 17; (with_reducible refine (impl_TwOr.calls false a3 a4 t109 _ A23.out).mono ?_); rintro e w' ⟨rfl, ⟨nd, rfl⟩⟩))
              go_ret
              exact ⟨by first | rfl | (simp [errW_none, errW_some] <;> rfl) | (simp only [← hji18, ← hji21]; first | rfl | (simp [errW_none, errW_some] <;> rfl)) | (simp [*, errW_none, errW_some] <;> rfl), by repeat (first | (with_reducible first | exact HB.out | apply below_alloc | apply pw_below_drewN | apply below_drew1) | exact HB.out)⟩
            · rw [if_neg c22] at H
              have c22b0 : (t108 == (ji21)) = false := beq_eq_false_iff_ne.mpr c22
              have c22b1 : (t108 != (ji21)) = true := bne_iff_ne.mpr c22
              obtain rfl := Option.some.inj H
              go_wp2_with (first | ((with_reducible refine gate_callee (f := 15) rfl ?_); refine goesL_ (some 25) rfl rfl Try.func15 (by kernel_rfl) rfl #[.int .i64 a0, .int .i64 a1] rfl (by (try simp only [List.map_toArray, List.map_cons, List.map_nil]); first | done | rfl | (simp only [List.length_drop, List.length_take]; rfl)) ?_; (with_reducible refine (impl_TwMax.calls a0 a1 t107 _ A17.out).mono ?_); rintro e w' ⟨rfl, ⟨nd, rfl⟩⟩; refine ⟨_, rfl, ?_⟩) | (go_at_call 16; (with_reducible refine (impl_TwMin.calls a0 a1 t108 _ A20.out).mono ?_); rintro e w' ⟨rfl, ⟨nd, rfl⟩⟩))
              go_ret
              exact ⟨by first | rfl | (simp [errW_none, errW_some] <;> rfl) | (simp only [← hji18, ← hji21]; first | rfl | (simp [errW_none, errW_some] <;> rfl)) | (simp [*, errW_none, errW_some] <;> rfl), by repeat (first | (with_reducible first | exact HB.out | apply below_alloc | apply pw_below_drewN | apply below_drew1) | exact HB.out)⟩
          · rw [if_neg c19] at H
            have c19b0 : (t107 == (ji18)) = false := beq_eq_false_iff_ne.mpr c19
            have c19b1 : (t107 != (ji18)) = true := bne_iff_ne.mpr c19
            obtain rfl := Option.some.inj H
            go_wp2_with (first | ((with_reducible refine gate_callee (f := 15) rfl ?_); refine goesL_ (some 25) rfl rfl Try.func15 (by kernel_rfl) rfl #[.int .i64 a0, .int .i64 a1] rfl (by (try simp only [List.map_toArray, List.map_cons, List.map_nil]); first | done | rfl | (simp only [List.length_drop, List.length_take]; rfl)) ?_; (with_reducible refine (impl_TwMax.calls a0 a1 t107 _ A17.out).mono ?_); rintro e w' ⟨rfl, ⟨nd, rfl⟩⟩; refine ⟨_, rfl, ?_⟩))
            go_ret
            exact ⟨by first | rfl | (simp [errW_none, errW_some] <;> rfl) | (simp only [← hji18]; first | rfl | (simp [errW_none, errW_some] <;> rfl)) | (simp [*, errW_none, errW_some] <;> rfl), by repeat (first | (with_reducible first | exact HB.out | apply below_alloc | apply pw_below_drewN | apply below_drew1) | exact HB.out)⟩

/-- THE ONE PURE STATEMENT of laws_FnSmall: yours. -/
def laws_FnSmall.Pure : Prop := ∀ (a0 : Int) (a1 : Int) (a2 : Bool) (a3 : ByteArray) (a4 : ByteArray), (Lit.int .i64 a0).wf = true → (Lit.int .i64 a1).wf = true → a3.size ≤ 140737488351232 → a4.size ≤ 140737488351232 → ∃ k, laws_FnSmall.f k a0 a1 a2 a3 a4 = some true
theorem laws_FnSmall.walk (P : laws_FnSmall.Pure) (a0 : Int) (a1 : Int) (a2 : Bool) (a3 : ByteArray) (a4 : ByteArray) (w : World) (w0 : (Lit.int .i64 a0).wf = true) (w1 : (Lit.int .i64 a1).wf = true) (w3 : a3.size ≤ 140737488351232) (w4 : a4.size ≤ 140737488351232) :
    Calls Try.prog 7 #[.int .i64 a0, .int .i64 a1, .bool a2, .string a3, .string a4] w fun e w' => e = .returned (.bool true) ∧ Below w.heap.size w w' := by
  obtain ⟨k, h⟩ := P a0 a1 a2 a3 a4 w0 w1 w3 w4
  refine (laws_FnSmall.calls k a0 a1 a2 a3 a4 true w h).mono ?_
  rintro e w' ⟨rfl, hd⟩
  exact ⟨rfl, hd⟩

end Go.Proofs.Ytimefacdnabkdaa.PFnSmall
