-- Written by hprint.py, a program of this session
import Derived.Test.YtnmochachiieaaaDoorPLawBeforeFallsx0
namespace Go.Proofs.YtnmochachiieaaaDoor.PLawBeforeFalls
open Go.RowKit Go.Proofs.YtnmochachiieaaaDoor.Hand Go.Proofs.YtnmochachiieaaaDoorW.PrintWords Go.Proofs.YtnmochachiieaaaDoorW.PrintLast Go.Proofs.YtnmochachiieaaaDoorW.PrintMore
attribute [local go_sem] max2_int min2_int max_two min_two max_three min_three max_four min_four   -- for this text's walks alone
set_option linter.unusedVariables false
set_option linter.unusedSimpArgs false

-- BY HAND: function 4 (impl_Before)

/-! ### laws_orders: function 5 -/
noncomputable def laws_orders.f  : Option (Bool) := (impl_Before.f (⟨#[97]⟩ : ByteArray) (⟨#[98]⟩ : ByteArray) 0 false).bind fun bt101 => (some bt101.2)
set_option maxHeartbeats 8000000 in
set_option maxRecDepth 100000 in
theorem laws_orders.calls  (r : Bool) (w : World) (h : laws_orders.f  = some r) :
    Calls Tryd.prog 5 #[] w fun e w' => e = .returned (.bool r) ∧ Below w.heap.size w w' := by
  have HB := Aside0.mk (Below.refl w.heap.size w)
  have H : ((impl_Before.f (⟨#[97]⟩ : ByteArray) (⟨#[98]⟩ : ByteArray) 0 false).bind fun bt101 => (some bt101.2)) = some r := h
  clear h
  replace H := Option.bind_eq_some_iff.mp H
  obtain ⟨⟨t101, t102⟩, A10, H⟩ := H
  replace H : (some t102) = some r := H
  have A1 := Aside0.mk A10
  clear A10
  obtain rfl := Option.some.inj H
  go_enter Tryd.func5, Tryd.ntmps5
  go_wp2_with (first | ((with_reducible refine gate_callee (f := 4) rfl ?_); refine goesL_ (some 4) rfl rfl Tryd.func4 (by kernel_rfl) rfl #[.string (⟨#[97]⟩ : ByteArray), .string (⟨#[98]⟩ : ByteArray), .int .i64 0, .bool false] rfl (by (try simp only [List.map_toArray, List.map_cons, List.map_nil]); first | done | rfl | (simp only [List.length_drop, List.length_take]; rfl)) ?_; (with_reducible refine (impl_Before.calls (⟨#[97]⟩ : ByteArray) (⟨#[98]⟩ : ByteArray) 0 false t101 t102 _ A1.out).mono ?_); rintro e w2 ⟨rfl, hb⟩; refine ⟨_, rfl, ?_⟩; have n0_ := Aside0.mk (below_step (by repeat (first | (with_reducible first | exact HB.out | apply below_alloc | apply pw_below_drewN | apply below_drew1) | exact HB.out)) hb); clear HB; have HB := n0_; clear n0_; (try clear hb); (try clear hb2); (try clear hk); (try clear hi)))
  go_ret
  exact ⟨by first | rfl | (simp [errW_none, errW_some] <;> rfl) | (simp [errW_none, errW_some, It.bne_nil] <;> rfl) | (simp [errW_none, errW_some, It.bne_nil]; done) | (simp [*, errW_none, errW_some] <;> rfl), by repeat (first | (with_reducible first | exact HB.out | apply below_alloc | apply pw_below_drewN | apply below_drew1) | exact HB.out)⟩

/-! ### laws_FnBeforeFalls: function 3 -/
mutual
noncomputable def laws_FnBeforeFalls.j0 : Nat → ByteArray → ByteArray → Int → Bool → Option (Bool)
  | 0, _, _, _, _ => none
  | k + 1, x0, x1, x2, x18 => if x18 = true then (some true) else (if (x0.size : Int) > 400 then (laws_FnBeforeFalls.j1 k x0 x1 x2 true) else (if (x1.size : Int) > 400 then (laws_FnBeforeFalls.j1 k x0 x1 x2 true) else (if x2 = 0 then (laws_FnBeforeFalls.j1 k x0 x1 x2 false) else (laws_FnBeforeFalls.j1 k x0 x1 x2 (x2 != 2)))))
noncomputable def laws_FnBeforeFalls.j1 : Nat → ByteArray → ByteArray → Int → Bool → Option (Bool)
  | 0, _, _, _, _ => none
  | k + 1, x0, x1, x2, x34 => if x34 = true then (some true) else ((impl_Before.f x0 x1 x2 false).bind fun bt103 => ((impl_Before.f x1 x0 (wrap64 (x2 + 4)) false).bind fun bt105 => (if (bt103.1 == bt105.1) = true then (if bt103.1 = true then ((laws_orders.f).bind fun t107 => (some t107)) else (if (bt103.2 == bt105.2) = true then ((laws_orders.f).bind fun t108 => (some t108)) else (some false))) else (some false))))
end
noncomputable def laws_FnBeforeFalls.f (k : Nat) (a0 : ByteArray) (a1 : ByteArray) (a2 : Int) : Option (Bool) := if (a0.size : Int) > 2147483647 then (laws_FnBeforeFalls.j0 k a0 a1 a2 true) else (laws_FnBeforeFalls.j0 k a0 a1 a2 (decide ((a1.size : Int) > 2147483647)))
theorem laws_FnBeforeFalls.mono_l : ∀ k, (∀ y0 y1 y2 y3, LeO (laws_FnBeforeFalls.j0 k y0 y1 y2 y3) (laws_FnBeforeFalls.j0 (k + 1) y0 y1 y2 y3)) ∧ (∀ y0 y1 y2 y3, LeO (laws_FnBeforeFalls.j1 k y0 y1 y2 y3) (laws_FnBeforeFalls.j1 (k + 1) y0 y1 y2 y3))
  | 0 => ⟨fun _ _ _ _ r h => by simp [laws_FnBeforeFalls.j0] at h, fun _ _ _ _ r h => by simp [laws_FnBeforeFalls.j1] at h⟩
  | k + 1 => by
    obtain ⟨ih0, ih1⟩ := laws_FnBeforeFalls.mono_l k
    refine ⟨?_, ?_⟩
    · intro y0 y1 y2 y3
      unfold laws_FnBeforeFalls.j0
      repeat' first
      | (with_reducible exact ih0 _ _ _ _)
      | (with_reducible exact ih1 _ _ _ _)
      | (with_reducible exact LeO.refl _)
      | (with_reducible exact LeO.none _)
      | (with_reducible refine LeO.ite ?_ ?_)
      | (with_reducible refine LeO.bind ?_ (fun _ => ?_))
      | exact ih0 _ _ _ _
      | exact ih1 _ _ _ _
      | exact LeO.none _
      | refine LeO.ite ?_ ?_
      | refine LeO.bind ?_ (fun _ => ?_)
    · intro y0 y1 y2 y3
      unfold laws_FnBeforeFalls.j1
      repeat' first
      | (with_reducible exact ih0 _ _ _ _)
      | (with_reducible exact ih1 _ _ _ _)
      | (with_reducible exact LeO.refl _)
      | (with_reducible exact LeO.none _)
      | (with_reducible refine LeO.ite ?_ ?_)
      | (with_reducible refine LeO.bind ?_ (fun _ => ?_))
      | exact ih0 _ _ _ _
      | exact ih1 _ _ _ _
      | exact LeO.none _
      | refine LeO.ite ?_ ?_
      | refine LeO.bind ?_ (fun _ => ?_)
theorem laws_FnBeforeFalls.mono : ∀ a0 a1 a2 k, LeO (laws_FnBeforeFalls.f k a0 a1 a2) (laws_FnBeforeFalls.f (k + 1) a0 a1 a2) := by
  intro a0 a1 a2 k
  obtain ⟨ih0, ih1⟩ := laws_FnBeforeFalls.mono_l k
  unfold laws_FnBeforeFalls.f
  repeat' first
      | (with_reducible exact ih0 _ _ _ _)
      | (with_reducible exact ih1 _ _ _ _)
      | (with_reducible exact LeO.refl _)
      | (with_reducible exact LeO.none _)
      | (with_reducible refine LeO.ite ?_ ?_)
      | (with_reducible refine LeO.bind ?_ (fun _ => ?_))
      | exact ih0 _ _ _ _
      | exact ih1 _ _ _ _
      | exact LeO.none _
      | refine LeO.ite ?_ ?_
      | refine LeO.bind ?_ (fun _ => ?_)
set_option maxHeartbeats 8000000 in
set_option maxRecDepth 100000 in
theorem laws_FnBeforeFalls.calls (k : Nat) (a0 : ByteArray) (a1 : ByteArray) (a2 : Int) (r : Bool) (w : World) (h : laws_FnBeforeFalls.f k a0 a1 a2 = some r) :
    Calls Tryd.prog 3 #[.string a0, .string a1, .int .i64 a2] w fun e w' => e = .returned (.bool r) ∧ Below w.heap.size w w' := by
  have HB := Aside0.mk (Below.refl w.heap.size w)
  have H : (if (a0.size : Int) > 2147483647 then (laws_FnBeforeFalls.j0 k a0 a1 a2 true) else (laws_FnBeforeFalls.j0 k a0 a1 a2 (decide ((a1.size : Int) > 2147483647)))) = some r := h
  clear h
  have HC4 := Aside0.mk H
  clear H
  go_enter Tryd.func3, Tryd.ntmps3
  go_upto_region 1 with (fail)
  go_cut [18] (fun v18 wc => ∃ (kq : Nat) (x18_3 : Bool), v18 = .bool x18_3 ∧ Aside0 (laws_FnBeforeFalls.j0 kq a0 a1 a2 x18_3 = some r) ∧ Aside0 (kq ≤ k) ∧ Aside0 (Below w.heap.size w wc))
  case first =>
    have H := HC4.out
    clear HC4
    by_cases c5 : (a0.size : Int) > 2147483647
    · rw [if_pos c5] at H
      have c5b0 : decide (2147483647 < (a0.size : Int)) = true := decide_eq_true c5
      have c5b1 : decide (2147483647 < a0.size) = true := decide_eq_true (by omega)
      clear c5
      (first | rw [c5b0] | (simp only [i64_w, i32_w]; rw [c5b0]) | skip)
      have H' := Aside0.mk H
      clear H
      go_wp2
      go_meet
      case rel => exact ⟨_, (true), (by first | rfl | (simp; done) | (simp [*]; done)), H', ⟨by first | omega | exact Nat.le_refl _⟩, ⟨by repeat (first | (with_reducible first | exact HB.out | apply below_alloc | apply pw_below_drewN | apply below_drew1) | exact HB.out)⟩⟩
    · rw [if_neg c5] at H
      have c5b0 : decide (2147483647 < (a0.size : Int)) = false := decide_eq_false c5
      have c5b1 : decide (2147483647 < a0.size) = false := decide_eq_false (by omega)
      clear c5
      (first | rw [c5b0] | (simp only [i64_w, i32_w]; rw [c5b0]) | skip)
      have H' := Aside0.mk H
      clear H
      go_wp2
      go_meet
      case rel => exact ⟨_, (decide ((a1.size : Int) > 2147483647)), (by first | rfl | (simp; done) | (simp [*]; done)), H', ⟨by first | omega | exact Nat.le_refl _⟩, ⟨by repeat (first | (with_reducible first | exact HB.out | apply below_alloc | apply pw_below_drewN | apply below_drew1) | exact HB.out)⟩⟩
  case rest =>
    clear HC4
    try clear p2
    try clear c3
    try clear c5
    try clear c5b0
    try clear c5b1
    obtain ⟨kq, x18_3, rfl, HA, HJ3, HB⟩ := hcut
    cases kq with
    | zero => exact absurd HA.out (by simp [laws_FnBeforeFalls.j0])
    | succ kj3 =>
      have H := HA.out
      clear HA
      simp only [laws_FnBeforeFalls.j0] at H
      by_cases c6 : x18_3 = true
      · subst c6
        have H1 : (some true) = some r := by rw [if_pos rfl] at H; exact H
        clear H
        have H := H1
        clear H1
        obtain rfl := Option.some.inj H
        go_wp2
        go_ret
        exact ⟨by first | rfl | (simp [errW_none, errW_some] <;> rfl) | (simp [errW_none, errW_some, It.bne_nil] <;> rfl) | (simp [errW_none, errW_some, It.bne_nil]; done) | (simp [*, errW_none, errW_some] <;> rfl), by repeat (first | (with_reducible first | exact HB.out | apply below_alloc | apply pw_below_drewN | apply below_drew1) | exact HB.out)⟩
      · replace c6 := Bool.eq_false_iff.mpr c6
        subst c6
        have H1 : (if (a0.size : Int) > 400 then (laws_FnBeforeFalls.j1 kj3 a0 a1 a2 true) else (if (a1.size : Int) > 400 then (laws_FnBeforeFalls.j1 kj3 a0 a1 a2 true) else (if a2 = 0 then (laws_FnBeforeFalls.j1 kj3 a0 a1 a2 false) else (laws_FnBeforeFalls.j1 kj3 a0 a1 a2 (a2 != 2))))) = some r := by rw [if_neg (show ¬ (false = true) by decide)] at H; exact H
        clear H
        have H := H1
        clear H1
        have HC7 := Aside0.mk H
        clear H
        go_upto_region 3 with (fail)
        go_cut [34] (fun v34 wc => ∃ (kq : Nat) (x34_6 : Bool), v34 = .bool x34_6 ∧ Aside0 (laws_FnBeforeFalls.j1 kq a0 a1 a2 x34_6 = some r) ∧ Aside0 (kq ≤ kj3) ∧ Aside0 (Below w.heap.size w wc))
        case first =>
          have H := HC7.out
          clear HC7
          by_cases c8 : (a0.size : Int) > 400
          · rw [if_pos c8] at H
            have c8b0 : decide (400 < (a0.size : Int)) = true := decide_eq_true c8
            have c8b1 : decide (400 < a0.size) = true := decide_eq_true (by omega)
            clear c8
            (first | rw [c8b0] | (simp only [i64_w, i32_w]; rw [c8b0]) | skip)
            have H' := Aside0.mk H
            clear H
            go_wp2
            go_meet
            case rel => exact ⟨_, (true), (by first | rfl | (simp; done) | (simp [*]; done)), H', ⟨by have := HJ3.out; first | omega | exact Nat.le_refl _⟩, ⟨by repeat (first | (with_reducible first | exact HB.out | apply below_alloc | apply pw_below_drewN | apply below_drew1) | exact HB.out)⟩⟩
          · rw [if_neg c8] at H
            have c8b0 : decide (400 < (a0.size : Int)) = false := decide_eq_false c8
            have c8b1 : decide (400 < a0.size) = false := decide_eq_false (by omega)
            clear c8
            (first | rw [c8b0] | (simp only [i64_w, i32_w]; rw [c8b0]) | skip)
            by_cases c9 : (a1.size : Int) > 400
            · rw [if_pos c9] at H
              have c9b0 : decide (400 < (a1.size : Int)) = true := decide_eq_true c9
              have c9b1 : decide (400 < a1.size) = true := decide_eq_true (by omega)
              clear c9
              have H' := Aside0.mk H
              clear H
              go_wp2
              go_meet
              case rel => exact ⟨_, (true), (by first | rfl | (simp; done) | (simp [*]; done)), H', ⟨by have := HJ3.out; first | omega | exact Nat.le_refl _⟩, ⟨by repeat (first | (with_reducible first | exact HB.out | apply below_alloc | apply pw_below_drewN | apply below_drew1) | exact HB.out)⟩⟩
            · rw [if_neg c9] at H
              have c9b0 : decide (400 < (a1.size : Int)) = false := decide_eq_false c9
              have c9b1 : decide (400 < a1.size) = false := decide_eq_false (by omega)
              clear c9
              by_cases c10 : a2 = 0
              · rw [if_pos c10] at H
                have c10b0 : (a2 == 0) = true := beq_iff_eq.mpr c10
                have c10b1 : (a2 != 0) = false := bne_eq_false_iff_eq.mpr c10
                clear c10
                have H' := Aside0.mk H
                clear H
                go_wp2
                go_meet
                case rel => exact ⟨_, (false), (by first | rfl | (simp; done) | (simp [*]; done)), H', ⟨by have := HJ3.out; first | omega | exact Nat.le_refl _⟩, ⟨by repeat (first | (with_reducible first | exact HB.out | apply below_alloc | apply pw_below_drewN | apply below_drew1) | exact HB.out)⟩⟩
              · rw [if_neg c10] at H
                have c10b0 : (a2 == 0) = false := beq_eq_false_iff_ne.mpr c10
                have c10b1 : (a2 != 0) = true := bne_iff_ne.mpr c10
                have H' := Aside0.mk H
                clear H
                go_wp2
                go_meet
                case rel => exact ⟨_, ((a2 != 2)), (by first | rfl | (simp; done) | (simp [*]; done)), H', ⟨by have := HJ3.out; first | omega | exact Nat.le_refl _⟩, ⟨by repeat (first | (with_reducible first | exact HB.out | apply below_alloc | apply pw_below_drewN | apply below_drew1) | exact HB.out)⟩⟩
        case rest =>
          clear HC7
          try clear c1
          try clear p2
          try clear c3
          try clear c5
          try clear c5b0
          try clear c5b1
          try clear c6
          try clear c8
          try clear c8b0
          try clear c8b1
          try clear c9
          try clear c9b0
          try clear c9b1
          try clear c10
          try clear c10b0
          try clear c10b1
          try clear p2
          obtain ⟨kq, x34_6, rfl, HA, HJ6, HB⟩ := hcut
          cases kq with
          | zero => exact absurd HA.out (by simp [laws_FnBeforeFalls.j1])
          | succ kj6 =>
            have H := HA.out
            clear HA
            simp only [laws_FnBeforeFalls.j1] at H
            by_cases c11 : x34_6 = true
            · subst c11
              have H1 : (some true) = some r := by rw [if_pos rfl] at H; exact H
              clear H
              have H := H1
              clear H1
              obtain rfl := Option.some.inj H
              go_wp2
              go_ret
              exact ⟨by first | rfl | (simp [errW_none, errW_some] <;> rfl) | (simp [errW_none, errW_some, It.bne_nil] <;> rfl) | (simp [errW_none, errW_some, It.bne_nil]; done) | (simp [*, errW_none, errW_some] <;> rfl), by repeat (first | (with_reducible first | exact HB.out | apply below_alloc | apply pw_below_drewN | apply below_drew1) | exact HB.out)⟩
            · replace c11 := Bool.eq_false_iff.mpr c11
              subst c11
              have H1 : ((impl_Before.f a0 a1 a2 false).bind fun bt103 => ((impl_Before.f a1 a0 (wrap64 (a2 + 4)) false).bind fun bt105 => (if (bt103.1 == bt105.1) = true then (if bt103.1 = true then ((laws_orders.f).bind fun t107 => (some t107)) else (if (bt103.2 == bt105.2) = true then ((laws_orders.f).bind fun t108 => (some t108)) else (some false))) else (some false)))) = some r := by rw [if_neg (show ¬ (false = true) by decide)] at H; exact H
              clear H
              have H := H1
              clear H1
              replace H := Option.bind_eq_some_iff.mp H
              obtain ⟨⟨t103, t104⟩, A120, H⟩ := H
              replace H : ((impl_Before.f a1 a0 (wrap64 (a2 + 4)) false).bind fun bt105 => (if (t103 == bt105.1) = true then (if t103 = true then ((laws_orders.f).bind fun t107 => (some t107)) else (if (t104 == bt105.2) = true then ((laws_orders.f).bind fun t108 => (some t108)) else (some false))) else (some false))) = some r := H
              have A12 := Aside0.mk A120
              clear A120
              replace H := Option.bind_eq_some_iff.mp H
              obtain ⟨⟨t105, t106⟩, A130, H⟩ := H
              replace H : (if (t103 == t105) = true then (if t103 = true then ((laws_orders.f).bind fun t107 => (some t107)) else (if (t104 == t106) = true then ((laws_orders.f).bind fun t108 => (some t108)) else (some false))) else (some false)) = some r := H
              have A13 := Aside0.mk A130
              clear A130
              by_cases c14 : (t103 == t105) = true
              · rw [if_pos c14] at H
                have c14b0 : (t103 == t105) = true := c14
                (try (have c14b1 : decide (t103 = t105) = true := by simpa using c14))
                (try (have c14b2 : (t103 == t105) = true := by simpa using c14))
                clear c14
                by_cases c15 : t103 = true
                · subst c15
                  have H1 : ((laws_orders.f).bind fun t107 => (some t107)) = some r := by rw [if_pos rfl] at H; exact H
                  clear H
                  have H := H1
                  clear H1
                  replace H := Option.bind_eq_some_iff.mp H
                  obtain ⟨t107, A160, H⟩ := H
                  replace H : (some t107) = some r := H
                  have A16 := Aside0.mk A160
                  clear A160
                  obtain rfl := Option.some.inj H
                  go_wp2_with (first | ((with_reducible refine gate_callee (f := 4) rfl ?_); refine goesL_ (some 39) rfl rfl Tryd.func4 (by kernel_rfl) rfl #[.string a0, .string a1, .int .i64 a2, .bool false] rfl (by (try simp only [List.map_toArray, List.map_cons, List.map_nil]); first | done | rfl | (simp only [List.length_drop, List.length_take]; rfl)) ?_; (with_reducible refine (impl_Before.calls a0 a1 a2 false true t104 _ A12.out).mono ?_); rintro e w17 ⟨rfl, hb⟩; refine ⟨_, rfl, ?_⟩; have n0_ := Aside0.mk (below_step (by repeat (first | (with_reducible first | exact HB.out | apply below_alloc | apply pw_below_drewN | apply below_drew1) | exact HB.out)) hb); clear HB; have HB := n0_; clear n0_; (try clear hb); (try clear hb2); (try clear hk); (try clear hi)) | ((with_reducible refine gate_callee (f := 4) rfl ?_); refine goesL_ (some 47) rfl rfl Tryd.func4 (by kernel_rfl) rfl #[.string a1, .string a0, .int .i64 (wrap64 (a2 + 4)), .bool false] rfl (by (try simp only [List.map_toArray, List.map_cons, List.map_nil]); first | done | rfl | (simp only [List.length_drop, List.length_take]; rfl)) ?_; (with_reducible refine (impl_Before.calls a1 a0 (wrap64 (a2 + 4)) false t105 t106 _ A13.out).mono ?_); rintro e w18 ⟨rfl, hb⟩; refine ⟨_, rfl, ?_⟩; have n0_ := Aside0.mk (below_step (by repeat (first | (with_reducible first | exact HB.out | apply below_alloc | apply pw_below_drewN | apply below_drew1) | exact HB.out)) hb); clear HB; have HB := n0_; clear n0_; (try clear hb); (try clear hb2); (try clear hk); (try clear hi)) | (go_at_call 5; (with_reducible refine (laws_orders.calls  t107 _ A16.out).mono ?_); rintro e w19 ⟨rfl, hb⟩; have n0_ := Aside0.mk (below_step (by repeat (first | (with_reducible first | exact HB.out | apply below_alloc | apply pw_below_drewN | apply below_drew1) | exact HB.out)) hb); clear HB; have HB := n0_; clear n0_; (try clear hb); (try clear hb2); (try clear hk); (try clear hi)))
                  go_ret
                  exact ⟨by first | rfl | (simp [errW_none, errW_some] <;> rfl) | (simp [errW_none, errW_some, It.bne_nil] <;> rfl) | (simp [errW_none, errW_some, It.bne_nil]; done) | (simp [*, errW_none, errW_some] <;> rfl), by repeat (first | (with_reducible first | exact HB.out | apply below_alloc | apply pw_below_drewN | apply below_drew1) | exact HB.out)⟩
                · replace c15 := Bool.eq_false_iff.mpr c15
                  subst c15
                  have H1 : (if (t104 == t106) = true then ((laws_orders.f).bind fun t108 => (some t108)) else (some false)) = some r := by rw [if_neg (show ¬ (false = true) by decide)] at H; exact H
                  clear H
                  have H := H1
                  clear H1
                  by_cases c20 : (t104 == t106) = true
                  · rw [if_pos c20] at H
                    have c20b0 : (t104 == t106) = true := c20
                    (try (have c20b1 : decide (t104 = t106) = true := by simpa using c20))
                    (try (have c20b2 : (t104 == t106) = true := by simpa using c20))
                    clear c20
                    replace H := Option.bind_eq_some_iff.mp H
                    obtain ⟨t108, A210, H⟩ := H
                    replace H : (some t108) = some r := H
                    have A21 := Aside0.mk A210
                    clear A210
                    obtain rfl := Option.some.inj H
                    go_wp2_with (first | ((with_reducible refine gate_callee (f := 4) rfl ?_); refine goesL_ (some 39) rfl rfl Tryd.func4 (by kernel_rfl) rfl #[.string a0, .string a1, .int .i64 a2, .bool false] rfl (by (try simp only [List.map_toArray, List.map_cons, List.map_nil]); first | done | rfl | (simp only [List.length_drop, List.length_take]; rfl)) ?_; (with_reducible refine (impl_Before.calls a0 a1 a2 false false t104 _ A12.out).mono ?_); rintro e w22 ⟨rfl, hb⟩; refine ⟨_, rfl, ?_⟩; have n0_ := Aside0.mk (below_step (by repeat (first | (with_reducible first | exact HB.out | apply below_alloc | apply pw_below_drewN | apply below_drew1) | exact HB.out)) hb); clear HB; have HB := n0_; clear n0_; (try clear hb); (try clear hb2); (try clear hk); (try clear hi)) | ((with_reducible refine gate_callee (f := 4) rfl ?_); refine goesL_ (some 47) rfl rfl Tryd.func4 (by kernel_rfl) rfl #[.string a1, .string a0, .int .i64 (wrap64 (a2 + 4)), .bool false] rfl (by (try simp only [List.map_toArray, List.map_cons, List.map_nil]); first | done | rfl | (simp only [List.length_drop, List.length_take]; rfl)) ?_; (with_reducible refine (impl_Before.calls a1 a0 (wrap64 (a2 + 4)) false t105 t106 _ A13.out).mono ?_); rintro e w23 ⟨rfl, hb⟩; refine ⟨_, rfl, ?_⟩; have n0_ := Aside0.mk (below_step (by repeat (first | (with_reducible first | exact HB.out | apply below_alloc | apply pw_below_drewN | apply below_drew1) | exact HB.out)) hb); clear HB; have HB := n0_; clear n0_; (try clear hb); (try clear hb2); (try clear hk); (try clear hi)) | (go_at_call 5; (with_reducible refine (laws_orders.calls  t108 _ A21.out).mono ?_); rintro e w24 ⟨rfl, hb⟩; have n0_ := Aside0.mk (below_step (by repeat (first | (with_reducible first | exact HB.out | apply below_alloc | apply pw_below_drewN | apply below_drew1) | exact HB.out)) hb); clear HB; have HB := n0_; clear n0_; (try clear hb); (try clear hb2); (try clear hk); (try clear hi)))
                    go_ret
                    exact ⟨by first | rfl | (simp [errW_none, errW_some] <;> rfl) | (simp [errW_none, errW_some, It.bne_nil] <;> rfl) | (simp [errW_none, errW_some, It.bne_nil]; done) | (simp [*, errW_none, errW_some] <;> rfl), by repeat (first | (with_reducible first | exact HB.out | apply below_alloc | apply pw_below_drewN | apply below_drew1) | exact HB.out)⟩
                  · rw [if_neg c20] at H
                    have c20b0 : (t104 == t106) = false := by simpa using c20
                    (try (have c20b1 : decide (t104 = t106) = false := by simpa using c20))
                    (try (have c20b2 : (t104 == t106) = false := by simpa using c20))
                    (try (have c20b3 : ¬ (t104 = t106) := by simpa using c20))
                    clear c20
                    obtain rfl := Option.some.inj H
                    go_wp2_with (first | ((with_reducible refine gate_callee (f := 4) rfl ?_); refine goesL_ (some 39) rfl rfl Tryd.func4 (by kernel_rfl) rfl #[.string a0, .string a1, .int .i64 a2, .bool false] rfl (by (try simp only [List.map_toArray, List.map_cons, List.map_nil]); first | done | rfl | (simp only [List.length_drop, List.length_take]; rfl)) ?_; (with_reducible refine (impl_Before.calls a0 a1 a2 false false t104 _ A12.out).mono ?_); rintro e w25 ⟨rfl, hb⟩; refine ⟨_, rfl, ?_⟩; have n0_ := Aside0.mk (below_step (by repeat (first | (with_reducible first | exact HB.out | apply below_alloc | apply pw_below_drewN | apply below_drew1) | exact HB.out)) hb); clear HB; have HB := n0_; clear n0_; (try clear hb); (try clear hb2); (try clear hk); (try clear hi)) | ((with_reducible refine gate_callee (f := 4) rfl ?_); refine goesL_ (some 47) rfl rfl Tryd.func4 (by kernel_rfl) rfl #[.string a1, .string a0, .int .i64 (wrap64 (a2 + 4)), .bool false] rfl (by (try simp only [List.map_toArray, List.map_cons, List.map_nil]); first | done | rfl | (simp only [List.length_drop, List.length_take]; rfl)) ?_; (with_reducible refine (impl_Before.calls a1 a0 (wrap64 (a2 + 4)) false t105 t106 _ A13.out).mono ?_); rintro e w26 ⟨rfl, hb⟩; refine ⟨_, rfl, ?_⟩; have n0_ := Aside0.mk (below_step (by repeat (first | (with_reducible first | exact HB.out | apply below_alloc | apply pw_below_drewN | apply below_drew1) | exact HB.out)) hb); clear HB; have HB := n0_; clear n0_; (try clear hb); (try clear hb2); (try clear hk); (try clear hi)))
                    go_ret
                    exact ⟨by first | rfl | (simp [errW_none, errW_some] <;> rfl) | (simp [errW_none, errW_some, It.bne_nil] <;> rfl) | (simp [errW_none, errW_some, It.bne_nil]; done) | (simp [*, errW_none, errW_some] <;> rfl), by repeat (first | (with_reducible first | exact HB.out | apply below_alloc | apply pw_below_drewN | apply below_drew1) | exact HB.out)⟩
              · rw [if_neg c14] at H
                have c14b0 : (t103 == t105) = false := by simpa using c14
                (try (have c14b1 : decide (t103 = t105) = false := by simpa using c14))
                (try (have c14b2 : (t103 == t105) = false := by simpa using c14))
                (try (have c14b3 : ¬ (t103 = t105) := by simpa using c14))
                clear c14
                obtain rfl := Option.some.inj H
                go_wp2_with (first | ((with_reducible refine gate_callee (f := 4) rfl ?_); refine goesL_ (some 39) rfl rfl Tryd.func4 (by kernel_rfl) rfl #[.string a0, .string a1, .int .i64 a2, .bool false] rfl (by (try simp only [List.map_toArray, List.map_cons, List.map_nil]); first | done | rfl | (simp only [List.length_drop, List.length_take]; rfl)) ?_; (with_reducible refine (impl_Before.calls a0 a1 a2 false t103 t104 _ A12.out).mono ?_); rintro e w27 ⟨rfl, hb⟩; refine ⟨_, rfl, ?_⟩; have n0_ := Aside0.mk (below_step (by repeat (first | (with_reducible first | exact HB.out | apply below_alloc | apply pw_below_drewN | apply below_drew1) | exact HB.out)) hb); clear HB; have HB := n0_; clear n0_; (try clear hb); (try clear hb2); (try clear hk); (try clear hi)) | ((with_reducible refine gate_callee (f := 4) rfl ?_); refine goesL_ (some 47) rfl rfl Tryd.func4 (by kernel_rfl) rfl #[.string a1, .string a0, .int .i64 (wrap64 (a2 + 4)), .bool false] rfl (by (try simp only [List.map_toArray, List.map_cons, List.map_nil]); first | done | rfl | (simp only [List.length_drop, List.length_take]; rfl)) ?_; (with_reducible refine (impl_Before.calls a1 a0 (wrap64 (a2 + 4)) false t105 t106 _ A13.out).mono ?_); rintro e w28 ⟨rfl, hb⟩; refine ⟨_, rfl, ?_⟩; have n0_ := Aside0.mk (below_step (by repeat (first | (with_reducible first | exact HB.out | apply below_alloc | apply pw_below_drewN | apply below_drew1) | exact HB.out)) hb); clear HB; have HB := n0_; clear n0_; (try clear hb); (try clear hb2); (try clear hk); (try clear hi)))
                go_ret
                exact ⟨by first | rfl | (simp [errW_none, errW_some] <;> rfl) | (simp [errW_none, errW_some, It.bne_nil] <;> rfl) | (simp [errW_none, errW_some, It.bne_nil]; done) | (simp [*, errW_none, errW_some] <;> rfl), by repeat (first | (with_reducible first | exact HB.out | apply below_alloc | apply pw_below_drewN | apply below_drew1) | exact HB.out)⟩

noncomputable def laws_FnBeforeFalls.Pure : Prop := ∀ (a0 : ByteArray) (a1 : ByteArray) (a2 : Int), a0.size ≤ 140737488351232 → a1.size ≤ 140737488351232 → (Lit.int .i64 a2).wf = true → ∃ k, laws_FnBeforeFalls.f k a0 a1 a2 = some true

end Go.Proofs.YtnmochachiieaaaDoor.PLawBeforeFalls
