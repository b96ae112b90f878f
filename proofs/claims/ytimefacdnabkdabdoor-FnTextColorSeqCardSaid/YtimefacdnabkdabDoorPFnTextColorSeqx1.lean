-- Written by hprint.py, a program of this session
import Derived.Test.YtimefacdnabkdabDoorPFnTextColorSeqx0
namespace Go.Proofs.YtimefacdnabkdabDoor.PFnTextColorSeq
open Go.RowKit Go.Proofs.YtimefacdnabkdabDoor.Hand Go.Proofs.YtimefacdnabkdabDoorW.PrintWords Go.Proofs.YtimefacdnabkdabDoorW.PrintLast Go.Proofs.YtimefacdnabkdabDoorW.PrintMore
attribute [local go_sem] max2_int min2_int max_two min_two max_three min_three max_four min_four   -- for this text's walks alone
set_option linter.unusedVariables false
set_option linter.unusedSimpArgs false

/-! ### spec_TxAttribute: function 4 -/
def spec_TxAttribute.f (a0 : Int) : Option (Bool) := if a0 ≥ 1 then (if a0 ≤ 9 then (some true) else (if a0 ≥ 30 then (if a0 ≤ 37 then (some true) else (if a0 ≥ 40 then (if a0 ≤ 47 then (some true) else (if a0 ≥ 90 then (if a0 ≤ 97 then (some true) else (if a0 ≥ 100 then (some (decide (a0 ≤ 107))) else (some false))) else (if a0 ≥ 100 then (some (decide (a0 ≤ 107))) else (some false)))) else (if a0 ≥ 90 then (if a0 ≤ 97 then (some true) else (if a0 ≥ 100 then (some (decide (a0 ≤ 107))) else (some false))) else (if a0 ≥ 100 then (some (decide (a0 ≤ 107))) else (some false))))) else (if a0 ≥ 40 then (if a0 ≤ 47 then (some true) else (if a0 ≥ 90 then (if a0 ≤ 97 then (some true) else (if a0 ≥ 100 then (some (decide (a0 ≤ 107))) else (some false))) else (if a0 ≥ 100 then (some (decide (a0 ≤ 107))) else (some false)))) else (if a0 ≥ 90 then (if a0 ≤ 97 then (some true) else (if a0 ≥ 100 then (some (decide (a0 ≤ 107))) else (some false))) else (if a0 ≥ 100 then (some (decide (a0 ≤ 107))) else (some false)))))) else (if a0 ≥ 30 then (if a0 ≤ 37 then (some true) else (if a0 ≥ 40 then (if a0 ≤ 47 then (some true) else (if a0 ≥ 90 then (if a0 ≤ 97 then (some true) else (if a0 ≥ 100 then (some (decide (a0 ≤ 107))) else (some false))) else (if a0 ≥ 100 then (some (decide (a0 ≤ 107))) else (some false)))) else (if a0 ≥ 90 then (if a0 ≤ 97 then (some true) else (if a0 ≥ 100 then (some (decide (a0 ≤ 107))) else (some false))) else (if a0 ≥ 100 then (some (decide (a0 ≤ 107))) else (some false))))) else (if a0 ≥ 40 then (if a0 ≤ 47 then (some true) else (if a0 ≥ 90 then (if a0 ≤ 97 then (some true) else (if a0 ≥ 100 then (some (decide (a0 ≤ 107))) else (some false))) else (if a0 ≥ 100 then (some (decide (a0 ≤ 107))) else (some false)))) else (if a0 ≥ 90 then (if a0 ≤ 97 then (some true) else (if a0 ≥ 100 then (some (decide (a0 ≤ 107))) else (some false))) else (if a0 ≥ 100 then (some (decide (a0 ≤ 107))) else (some false)))))
set_option maxHeartbeats 8000000 in
set_option maxRecDepth 100000 in
theorem spec_TxAttribute.calls (a0 : Int) (r : Bool) (w : World) (h : spec_TxAttribute.f a0 = some r) :
    Calls Tryd.prog 4 #[.int .i64 a0] w fun e w' => e = .returned (.bool r) ∧ Drawn0 w w' := by
  have H : (if a0 ≥ 1 then (if a0 ≤ 9 then (some true) else (if a0 ≥ 30 then (if a0 ≤ 37 then (some true) else (if a0 ≥ 40 then (if a0 ≤ 47 then (some true) else (if a0 ≥ 90 then (if a0 ≤ 97 then (some true) else (if a0 ≥ 100 then (some (decide (a0 ≤ 107))) else (some false))) else (if a0 ≥ 100 then (some (decide (a0 ≤ 107))) else (some false)))) else (if a0 ≥ 90 then (if a0 ≤ 97 then (some true) else (if a0 ≥ 100 then (some (decide (a0 ≤ 107))) else (some false))) else (if a0 ≥ 100 then (some (decide (a0 ≤ 107))) else (some false))))) else (if a0 ≥ 40 then (if a0 ≤ 47 then (some true) else (if a0 ≥ 90 then (if a0 ≤ 97 then (some true) else (if a0 ≥ 100 then (some (decide (a0 ≤ 107))) else (some false))) else (if a0 ≥ 100 then (some (decide (a0 ≤ 107))) else (some false)))) else (if a0 ≥ 90 then (if a0 ≤ 97 then (some true) else (if a0 ≥ 100 then (some (decide (a0 ≤ 107))) else (some false))) else (if a0 ≥ 100 then (some (decide (a0 ≤ 107))) else (some false)))))) else (if a0 ≥ 30 then (if a0 ≤ 37 then (some true) else (if a0 ≥ 40 then (if a0 ≤ 47 then (some true) else (if a0 ≥ 90 then (if a0 ≤ 97 then (some true) else (if a0 ≥ 100 then (some (decide (a0 ≤ 107))) else (some false))) else (if a0 ≥ 100 then (some (decide (a0 ≤ 107))) else (some false)))) else (if a0 ≥ 90 then (if a0 ≤ 97 then (some true) else (if a0 ≥ 100 then (some (decide (a0 ≤ 107))) else (some false))) else (if a0 ≥ 100 then (some (decide (a0 ≤ 107))) else (some false))))) else (if a0 ≥ 40 then (if a0 ≤ 47 then (some true) else (if a0 ≥ 90 then (if a0 ≤ 97 then (some true) else (if a0 ≥ 100 then (some (decide (a0 ≤ 107))) else (some false))) else (if a0 ≥ 100 then (some (decide (a0 ≤ 107))) else (some false)))) else (if a0 ≥ 90 then (if a0 ≤ 97 then (some true) else (if a0 ≥ 100 then (some (decide (a0 ≤ 107))) else (some false))) else (if a0 ≥ 100 then (some (decide (a0 ≤ 107))) else (some false)))))) = some r := h
  clear h
  by_cases c2 : a0 ≥ 1
  · rw [if_pos c2] at H
    have c2b0 : decide (1 ≤ a0) = true := decide_eq_true c2
    clear c2
    by_cases c3 : a0 ≤ 9
    · rw [if_pos c3] at H
      have c3b0 : decide (a0 ≤ 9) = true := decide_eq_true c3
      clear c3
      obtain rfl := Option.some.inj H
      go_enter Tryd.func4, Tryd.ntmps4
      go_wp2
      go_ret
      exact ⟨by first | rfl | (simp; done) | (simp [*]; done), by repeat (first | exact Drawn0.refl _ | apply Drawn0.step)⟩
    · rw [if_neg c3] at H
      have c3b0 : decide (a0 ≤ 9) = false := decide_eq_false c3
      clear c3
      by_cases c4 : a0 ≥ 30
      · rw [if_pos c4] at H
        have c4b0 : decide (30 ≤ a0) = true := decide_eq_true c4
        clear c4
        by_cases c5 : a0 ≤ 37
        · rw [if_pos c5] at H
          have c5b0 : decide (a0 ≤ 37) = true := decide_eq_true c5
          clear c5
          obtain rfl := Option.some.inj H
          go_enter Tryd.func4, Tryd.ntmps4
          go_wp2
          go_ret
          exact ⟨by first | rfl | (simp; done) | (simp [*]; done), by repeat (first | exact Drawn0.refl _ | apply Drawn0.step)⟩
        · rw [if_neg c5] at H
          have c5b0 : decide (a0 ≤ 37) = false := decide_eq_false c5
          clear c5
          by_cases c6 : a0 ≥ 40
          · rw [if_pos c6] at H
            have c6b0 : decide (40 ≤ a0) = true := decide_eq_true c6
            clear c6
            by_cases c7 : a0 ≤ 47
            · rw [if_pos c7] at H
              have c7b0 : decide (a0 ≤ 47) = true := decide_eq_true c7
              clear c7
              obtain rfl := Option.some.inj H
              go_enter Tryd.func4, Tryd.ntmps4
              go_wp2
              go_ret
              exact ⟨by first | rfl | (simp; done) | (simp [*]; done), by repeat (first | exact Drawn0.refl _ | apply Drawn0.step)⟩
            · rw [if_neg c7] at H
              have c7b0 : decide (a0 ≤ 47) = false := decide_eq_false c7
              clear c7
              by_cases c8 : a0 ≥ 90
              · rw [if_pos c8] at H
                have c8b0 : decide (90 ≤ a0) = true := decide_eq_true c8
                clear c8
                by_cases c9 : a0 ≤ 97
                · rw [if_pos c9] at H
                  have c9b0 : decide (a0 ≤ 97) = true := decide_eq_true c9
                  clear c9
                  obtain rfl := Option.some.inj H
                  go_enter Tryd.func4, Tryd.ntmps4
                  go_wp2
                  go_ret
                  exact ⟨by first | rfl | (simp; done) | (simp [*]; done), by repeat (first | exact Drawn0.refl _ | apply Drawn0.step)⟩
                · rw [if_neg c9] at H
                  have c9b0 : decide (a0 ≤ 97) = false := decide_eq_false c9
                  clear c9
                  by_cases c10 : a0 ≥ 100
                  · rw [if_pos c10] at H
                    have c10b0 : decide (100 ≤ a0) = true := decide_eq_true c10
                    clear c10
                    obtain rfl := Option.some.inj H
                    go_enter Tryd.func4, Tryd.ntmps4
                    go_wp2
                    go_ret
                    exact ⟨by first | rfl | (simp; done) | (simp [*]; done), by repeat (first | exact Drawn0.refl _ | apply Drawn0.step)⟩
                  · rw [if_neg c10] at H
                    have c10b0 : decide (100 ≤ a0) = false := decide_eq_false c10
                    clear c10
                    obtain rfl := Option.some.inj H
                    go_enter Tryd.func4, Tryd.ntmps4
                    go_wp2
                    go_ret
                    exact ⟨by first | rfl | (simp; done) | (simp [*]; done), by repeat (first | exact Drawn0.refl _ | apply Drawn0.step)⟩
              · rw [if_neg c8] at H
                have c8b0 : decide (90 ≤ a0) = false := decide_eq_false c8
                clear c8
                by_cases c11 : a0 ≥ 100
                · rw [if_pos c11] at H
                  have c11b0 : decide (100 ≤ a0) = true := decide_eq_true c11
                  clear c11
                  obtain rfl := Option.some.inj H
                  go_enter Tryd.func4, Tryd.ntmps4
                  go_wp2
                  go_ret
                  exact ⟨by first | rfl | (simp; done) | (simp [*]; done), by repeat (first | exact Drawn0.refl _ | apply Drawn0.step)⟩
                · rw [if_neg c11] at H
                  have c11b0 : decide (100 ≤ a0) = false := decide_eq_false c11
                  clear c11
                  obtain rfl := Option.some.inj H
                  go_enter Tryd.func4, Tryd.ntmps4
                  go_wp2
                  go_ret
                  exact ⟨by first | rfl | (simp; done) | (simp [*]; done), by repeat (first | exact Drawn0.refl _ | apply Drawn0.step)⟩
          · rw [if_neg c6] at H
            have c6b0 : decide (40 ≤ a0) = false := decide_eq_false c6
            clear c6
            by_cases c12 : a0 ≥ 90
            · rw [if_pos c12] at H
              have c12b0 : decide (90 ≤ a0) = true := decide_eq_true c12
              clear c12
              by_cases c13 : a0 ≤ 97
              · rw [if_pos c13] at H
                have c13b0 : decide (a0 ≤ 97) = true := decide_eq_true c13
                clear c13
                obtain rfl := Option.some.inj H
                go_enter Tryd.func4, Tryd.ntmps4
                go_wp2
                go_ret
                exact ⟨by first | rfl | (simp; done) | (simp [*]; done), by repeat (first | exact Drawn0.refl _ | apply Drawn0.step)⟩
              · rw [if_neg c13] at H
                have c13b0 : decide (a0 ≤ 97) = false := decide_eq_false c13
                clear c13
                by_cases c14 : a0 ≥ 100
                · rw [if_pos c14] at H
                  have c14b0 : decide (100 ≤ a0) = true := decide_eq_true c14
                  clear c14
                  obtain rfl := Option.some.inj H
                  go_enter Tryd.func4, Tryd.ntmps4
                  go_wp2
                  go_ret
                  exact ⟨by first | rfl | (simp; done) | (simp [*]; done), by repeat (first | exact Drawn0.refl _ | apply Drawn0.step)⟩
                · rw [if_neg c14] at H
                  have c14b0 : decide (100 ≤ a0) = false := decide_eq_false c14
                  clear c14
                  obtain rfl := Option.some.inj H
                  go_enter Tryd.func4, Tryd.ntmps4
                  go_wp2
                  go_ret
                  exact ⟨by first | rfl | (simp; done) | (simp [*]; done), by repeat (first | exact Drawn0.refl _ | apply Drawn0.step)⟩
            · rw [if_neg c12] at H
              have c12b0 : decide (90 ≤ a0) = false := decide_eq_false c12
              clear c12
              by_cases c15 : a0 ≥ 100
              · rw [if_pos c15] at H
                have c15b0 : decide (100 ≤ a0) = true := decide_eq_true c15
                clear c15
                obtain rfl := Option.some.inj H
                go_enter Tryd.func4, Tryd.ntmps4
                go_wp2
                go_ret
                exact ⟨by first | rfl | (simp; done) | (simp [*]; done), by repeat (first | exact Drawn0.refl _ | apply Drawn0.step)⟩
              · rw [if_neg c15] at H
                have c15b0 : decide (100 ≤ a0) = false := decide_eq_false c15
                clear c15
                obtain rfl := Option.some.inj H
                go_enter Tryd.func4, Tryd.ntmps4
                go_wp2
                go_ret
                exact ⟨by first | rfl | (simp; done) | (simp [*]; done), by repeat (first | exact Drawn0.refl _ | apply Drawn0.step)⟩
      · rw [if_neg c4] at H
        have c4b0 : decide (30 ≤ a0) = false := decide_eq_false c4
        clear c4
        by_cases c16 : a0 ≥ 40
        · rw [if_pos c16] at H
          have c16b0 : decide (40 ≤ a0) = true := decide_eq_true c16
          clear c16
          by_cases c17 : a0 ≤ 47
          · rw [if_pos c17] at H
            have c17b0 : decide (a0 ≤ 47) = true := decide_eq_true c17
            clear c17
            obtain rfl := Option.some.inj H
            go_enter Tryd.func4, Tryd.ntmps4
            go_wp2
            go_ret
            exact ⟨by first | rfl | (simp; done) | (simp [*]; done), by repeat (first | exact Drawn0.refl _ | apply Drawn0.step)⟩
          · rw [if_neg c17] at H
            have c17b0 : decide (a0 ≤ 47) = false := decide_eq_false c17
            clear c17
            by_cases c18 : a0 ≥ 90
            · rw [if_pos c18] at H
              have c18b0 : decide (90 ≤ a0) = true := decide_eq_true c18
              clear c18
              by_cases c19 : a0 ≤ 97
              · rw [if_pos c19] at H
                have c19b0 : decide (a0 ≤ 97) = true := decide_eq_true c19
                clear c19
                obtain rfl := Option.some.inj H
                go_enter Tryd.func4, Tryd.ntmps4
                go_wp2
                go_ret
                exact ⟨by first | rfl | (simp; done) | (simp [*]; done), by repeat (first | exact Drawn0.refl _ | apply Drawn0.step)⟩
              · rw [if_neg c19] at H
                have c19b0 : decide (a0 ≤ 97) = false := decide_eq_false c19
                clear c19
                by_cases c20 : a0 ≥ 100
                · rw [if_pos c20] at H
                  have c20b0 : decide (100 ≤ a0) = true := decide_eq_true c20
                  clear c20
                  obtain rfl := Option.some.inj H
                  go_enter Tryd.func4, Tryd.ntmps4
                  go_wp2
                  go_ret
                  exact ⟨by first | rfl | (simp; done) | (simp [*]; done), by repeat (first | exact Drawn0.refl _ | apply Drawn0.step)⟩
                · rw [if_neg c20] at H
                  have c20b0 : decide (100 ≤ a0) = false := decide_eq_false c20
                  clear c20
                  obtain rfl := Option.some.inj H
                  go_enter Tryd.func4, Tryd.ntmps4
                  go_wp2
                  go_ret
                  exact ⟨by first | rfl | (simp; done) | (simp [*]; done), by repeat (first | exact Drawn0.refl _ | apply Drawn0.step)⟩
            · rw [if_neg c18] at H
              have c18b0 : decide (90 ≤ a0) = false := decide_eq_false c18
              clear c18
              by_cases c21 : a0 ≥ 100
              · rw [if_pos c21] at H
                have c21b0 : decide (100 ≤ a0) = true := decide_eq_true c21
                clear c21
                obtain rfl := Option.some.inj H
                go_enter Tryd.func4, Tryd.ntmps4
                go_wp2
                go_ret
                exact ⟨by first | rfl | (simp; done) | (simp [*]; done), by repeat (first | exact Drawn0.refl _ | apply Drawn0.step)⟩
              · rw [if_neg c21] at H
                have c21b0 : decide (100 ≤ a0) = false := decide_eq_false c21
                clear c21
                obtain rfl := Option.some.inj H
                go_enter Tryd.func4, Tryd.ntmps4
                go_wp2
                go_ret
                exact ⟨by first | rfl | (simp; done) | (simp [*]; done), by repeat (first | exact Drawn0.refl _ | apply Drawn0.step)⟩
        · rw [if_neg c16] at H
          have c16b0 : decide (40 ≤ a0) = false := decide_eq_false c16
          clear c16
          by_cases c22 : a0 ≥ 90
          · rw [if_pos c22] at H
            have c22b0 : decide (90 ≤ a0) = true := decide_eq_true c22
            clear c22
            by_cases c23 : a0 ≤ 97
            · rw [if_pos c23] at H
              have c23b0 : decide (a0 ≤ 97) = true := decide_eq_true c23
              clear c23
              obtain rfl := Option.some.inj H
              go_enter Tryd.func4, Tryd.ntmps4
              go_wp2
              go_ret
              exact ⟨by first | rfl | (simp; done) | (simp [*]; done), by repeat (first | exact Drawn0.refl _ | apply Drawn0.step)⟩
            · rw [if_neg c23] at H
              have c23b0 : decide (a0 ≤ 97) = false := decide_eq_false c23
              clear c23
              by_cases c24 : a0 ≥ 100
              · rw [if_pos c24] at H
                have c24b0 : decide (100 ≤ a0) = true := decide_eq_true c24
                clear c24
                obtain rfl := Option.some.inj H
                go_enter Tryd.func4, Tryd.ntmps4
                go_wp2
                go_ret
                exact ⟨by first | rfl | (simp; done) | (simp [*]; done), by repeat (first | exact Drawn0.refl _ | apply Drawn0.step)⟩
              · rw [if_neg c24] at H
                have c24b0 : decide (100 ≤ a0) = false := decide_eq_false c24
                clear c24
                obtain rfl := Option.some.inj H
                go_enter Tryd.func4, Tryd.ntmps4
                go_wp2
                go_ret
                exact ⟨by first | rfl | (simp; done) | (simp [*]; done), by repeat (first | exact Drawn0.refl _ | apply Drawn0.step)⟩
          · rw [if_neg c22] at H
            have c22b0 : decide (90 ≤ a0) = false := decide_eq_false c22
            clear c22
            by_cases c25 : a0 ≥ 100
            · rw [if_pos c25] at H
              have c25b0 : decide (100 ≤ a0) = true := decide_eq_true c25
              clear c25
              obtain rfl := Option.some.inj H
              go_enter Tryd.func4, Tryd.ntmps4
              go_wp2
              go_ret
              exact ⟨by first | rfl | (simp; done) | (simp [*]; done), by repeat (first | exact Drawn0.refl _ | apply Drawn0.step)⟩
            · rw [if_neg c25] at H
              have c25b0 : decide (100 ≤ a0) = false := decide_eq_false c25
              clear c25
              obtain rfl := Option.some.inj H
              go_enter Tryd.func4, Tryd.ntmps4
              go_wp2
              go_ret
              exact ⟨by first | rfl | (simp; done) | (simp [*]; done), by repeat (first | exact Drawn0.refl _ | apply Drawn0.step)⟩
  · rw [if_neg c2] at H
    have c2b0 : decide (1 ≤ a0) = false := decide_eq_false c2
    clear c2
    by_cases c26 : a0 ≥ 30
    · rw [if_pos c26] at H
      have c26b0 : decide (30 ≤ a0) = true := decide_eq_true c26
      clear c26
      by_cases c27 : a0 ≤ 37
      · rw [if_pos c27] at H
        have c27b0 : decide (a0 ≤ 37) = true := decide_eq_true c27
        clear c27
        obtain rfl := Option.some.inj H
        go_enter Tryd.func4, Tryd.ntmps4
        go_wp2
        go_ret
        exact ⟨by first | rfl | (simp; done) | (simp [*]; done), by repeat (first | exact Drawn0.refl _ | apply Drawn0.step)⟩
      · rw [if_neg c27] at H
        have c27b0 : decide (a0 ≤ 37) = false := decide_eq_false c27
        clear c27
        by_cases c28 : a0 ≥ 40
        · rw [if_pos c28] at H
          have c28b0 : decide (40 ≤ a0) = true := decide_eq_true c28
          clear c28
          by_cases c29 : a0 ≤ 47
          · rw [if_pos c29] at H
            have c29b0 : decide (a0 ≤ 47) = true := decide_eq_true c29
            clear c29
            obtain rfl := Option.some.inj H
            go_enter Tryd.func4, Tryd.ntmps4
            go_wp2
            go_ret
            exact ⟨by first | rfl | (simp; done) | (simp [*]; done), by repeat (first | exact Drawn0.refl _ | apply Drawn0.step)⟩
          · rw [if_neg c29] at H
            have c29b0 : decide (a0 ≤ 47) = false := decide_eq_false c29
            clear c29
            by_cases c30 : a0 ≥ 90
            · rw [if_pos c30] at H
              have c30b0 : decide (90 ≤ a0) = true := decide_eq_true c30
              clear c30
              by_cases c31 : a0 ≤ 97
              · rw [if_pos c31] at H
                have c31b0 : decide (a0 ≤ 97) = true := decide_eq_true c31
                clear c31
                obtain rfl := Option.some.inj H
                go_enter Tryd.func4, Tryd.ntmps4
                go_wp2
                go_ret
                exact ⟨by first | rfl | (simp; done) | (simp [*]; done), by repeat (first | exact Drawn0.refl _ | apply Drawn0.step)⟩
              · rw [if_neg c31] at H
                have c31b0 : decide (a0 ≤ 97) = false := decide_eq_false c31
                clear c31
                by_cases c32 : a0 ≥ 100
                · rw [if_pos c32] at H
                  have c32b0 : decide (100 ≤ a0) = true := decide_eq_true c32
                  clear c32
                  obtain rfl := Option.some.inj H
                  go_enter Tryd.func4, Tryd.ntmps4
                  go_wp2
                  go_ret
                  exact ⟨by first | rfl | (simp; done) | (simp [*]; done), by repeat (first | exact Drawn0.refl _ | apply Drawn0.step)⟩
                · rw [if_neg c32] at H
                  have c32b0 : decide (100 ≤ a0) = false := decide_eq_false c32
                  clear c32
                  obtain rfl := Option.some.inj H
                  go_enter Tryd.func4, Tryd.ntmps4
                  go_wp2
                  go_ret
                  exact ⟨by first | rfl | (simp; done) | (simp [*]; done), by repeat (first | exact Drawn0.refl _ | apply Drawn0.step)⟩
            · rw [if_neg c30] at H
              have c30b0 : decide (90 ≤ a0) = false := decide_eq_false c30
              clear c30
              by_cases c33 : a0 ≥ 100
              · rw [if_pos c33] at H
                have c33b0 : decide (100 ≤ a0) = true := decide_eq_true c33
                clear c33
                obtain rfl := Option.some.inj H
                go_enter Tryd.func4, Tryd.ntmps4
                go_wp2
                go_ret
                exact ⟨by first | rfl | (simp; done) | (simp [*]; done), by repeat (first | exact Drawn0.refl _ | apply Drawn0.step)⟩
              · rw [if_neg c33] at H
                have c33b0 : decide (100 ≤ a0) = false := decide_eq_false c33
                clear c33
                obtain rfl := Option.some.inj H
                go_enter Tryd.func4, Tryd.ntmps4
                go_wp2
                go_ret
                exact ⟨by first | rfl | (simp; done) | (simp [*]; done), by repeat (first | exact Drawn0.refl _ | apply Drawn0.step)⟩
        · rw [if_neg c28] at H
          have c28b0 : decide (40 ≤ a0) = false := decide_eq_false c28
          clear c28
          by_cases c34 : a0 ≥ 90
          · rw [if_pos c34] at H
            have c34b0 : decide (90 ≤ a0) = true := decide_eq_true c34
            clear c34
            by_cases c35 : a0 ≤ 97
            · rw [if_pos c35] at H
              have c35b0 : decide (a0 ≤ 97) = true := decide_eq_true c35
              clear c35
              obtain rfl := Option.some.inj H
              go_enter Tryd.func4, Tryd.ntmps4
              go_wp2
              go_ret
              exact ⟨by first | rfl | (simp; done) | (simp [*]; done), by repeat (first | exact Drawn0.refl _ | apply Drawn0.step)⟩
            · rw [if_neg c35] at H
              have c35b0 : decide (a0 ≤ 97) = false := decide_eq_false c35
              clear c35
              by_cases c36 : a0 ≥ 100
              · rw [if_pos c36] at H
                have c36b0 : decide (100 ≤ a0) = true := decide_eq_true c36
                clear c36
                obtain rfl := Option.some.inj H
                go_enter Tryd.func4, Tryd.ntmps4
                go_wp2
                go_ret
                exact ⟨by first | rfl | (simp; done) | (simp [*]; done), by repeat (first | exact Drawn0.refl _ | apply Drawn0.step)⟩
              · rw [if_neg c36] at H
                have c36b0 : decide (100 ≤ a0) = false := decide_eq_false c36
                clear c36
                obtain rfl := Option.some.inj H
                go_enter Tryd.func4, Tryd.ntmps4
                go_wp2
                go_ret
                exact ⟨by first | rfl | (simp; done) | (simp [*]; done), by repeat (first | exact Drawn0.refl _ | apply Drawn0.step)⟩
          · rw [if_neg c34] at H
            have c34b0 : decide (90 ≤ a0) = false := decide_eq_false c34
            clear c34
            by_cases c37 : a0 ≥ 100
            · rw [if_pos c37] at H
              have c37b0 : decide (100 ≤ a0) = true := decide_eq_true c37
              clear c37
              obtain rfl := Option.some.inj H
              go_enter Tryd.func4, Tryd.ntmps4
              go_wp2
              go_ret
              exact ⟨by first | rfl | (simp; done) | (simp [*]; done), by repeat (first | exact Drawn0.refl _ | apply Drawn0.step)⟩
            · rw [if_neg c37] at H
              have c37b0 : decide (100 ≤ a0) = false := decide_eq_false c37
              clear c37
              obtain rfl := Option.some.inj H
              go_enter Tryd.func4, Tryd.ntmps4
              go_wp2
              go_ret
              exact ⟨by first | rfl | (simp; done) | (simp [*]; done), by repeat (first | exact Drawn0.refl _ | apply Drawn0.step)⟩
    · rw [if_neg c26] at H
      have c26b0 : decide (30 ≤ a0) = false := decide_eq_false c26
      clear c26
      by_cases c38 : a0 ≥ 40
      · rw [if_pos c38] at H
        have c38b0 : decide (40 ≤ a0) = true := decide_eq_true c38
        clear c38
        by_cases c39 : a0 ≤ 47
        · rw [if_pos c39] at H
          have c39b0 : decide (a0 ≤ 47) = true := decide_eq_true c39
          clear c39
          obtain rfl := Option.some.inj H
          go_enter Tryd.func4, Tryd.ntmps4
          go_wp2
          go_ret
          exact ⟨by first | rfl | (simp; done) | (simp [*]; done), by repeat (first | exact Drawn0.refl _ | apply Drawn0.step)⟩
        · rw [if_neg c39] at H
          have c39b0 : decide (a0 ≤ 47) = false := decide_eq_false c39
          clear c39
          by_cases c40 : a0 ≥ 90
          · rw [if_pos c40] at H
            have c40b0 : decide (90 ≤ a0) = true := decide_eq_true c40
            clear c40
            by_cases c41 : a0 ≤ 97
            · rw [if_pos c41] at H
              have c41b0 : decide (a0 ≤ 97) = true := decide_eq_true c41
              clear c41
              obtain rfl := Option.some.inj H
              go_enter Tryd.func4, Tryd.ntmps4
              go_wp2
              go_ret
              exact ⟨by first | rfl | (simp; done) | (simp [*]; done), by repeat (first | exact Drawn0.refl _ | apply Drawn0.step)⟩
            · rw [if_neg c41] at H
              have c41b0 : decide (a0 ≤ 97) = false := decide_eq_false c41
              clear c41
              by_cases c42 : a0 ≥ 100
              · rw [if_pos c42] at H
                have c42b0 : decide (100 ≤ a0) = true := decide_eq_true c42
                clear c42
                obtain rfl := Option.some.inj H
                go_enter Tryd.func4, Tryd.ntmps4
                go_wp2
                go_ret
                exact ⟨by first | rfl | (simp; done) | (simp [*]; done), by repeat (first | exact Drawn0.refl _ | apply Drawn0.step)⟩
              · rw [if_neg c42] at H
                have c42b0 : decide (100 ≤ a0) = false := decide_eq_false c42
                clear c42
                obtain rfl := Option.some.inj H
                go_enter Tryd.func4, Tryd.ntmps4
                go_wp2
                go_ret
                exact ⟨by first | rfl | (simp; done) | (simp [*]; done), by repeat (first | exact Drawn0.refl _ | apply Drawn0.step)⟩
          · rw [if_neg c40] at H
            have c40b0 : decide (90 ≤ a0) = false := decide_eq_false c40
            clear c40
            by_cases c43 : a0 ≥ 100
            · rw [if_pos c43] at H
              have c43b0 : decide (100 ≤ a0) = true := decide_eq_true c43
              clear c43
              obtain rfl := Option.some.inj H
              go_enter Tryd.func4, Tryd.ntmps4
              go_wp2
              go_ret
              exact ⟨by first | rfl | (simp; done) | (simp [*]; done), by repeat (first | exact Drawn0.refl _ | apply Drawn0.step)⟩
            · rw [if_neg c43] at H
              have c43b0 : decide (100 ≤ a0) = false := decide_eq_false c43
              clear c43
              obtain rfl := Option.some.inj H
              go_enter Tryd.func4, Tryd.ntmps4
              go_wp2
              go_ret
              exact ⟨by first | rfl | (simp; done) | (simp [*]; done), by repeat (first | exact Drawn0.refl _ | apply Drawn0.step)⟩
      · rw [if_neg c38] at H
        have c38b0 : decide (40 ≤ a0) = false := decide_eq_false c38
        clear c38
        by_cases c44 : a0 ≥ 90
        · rw [if_pos c44] at H
          have c44b0 : decide (90 ≤ a0) = true := decide_eq_true c44
          clear c44
          by_cases c45 : a0 ≤ 97
          · rw [if_pos c45] at H
            have c45b0 : decide (a0 ≤ 97) = true := decide_eq_true c45
            clear c45
            obtain rfl := Option.some.inj H
            go_enter Tryd.func4, Tryd.ntmps4
            go_wp2
            go_ret
            exact ⟨by first | rfl | (simp; done) | (simp [*]; done), by repeat (first | exact Drawn0.refl _ | apply Drawn0.step)⟩
          · rw [if_neg c45] at H
            have c45b0 : decide (a0 ≤ 97) = false := decide_eq_false c45
            clear c45
            by_cases c46 : a0 ≥ 100
            · rw [if_pos c46] at H
              have c46b0 : decide (100 ≤ a0) = true := decide_eq_true c46
              clear c46
              obtain rfl := Option.some.inj H
              go_enter Tryd.func4, Tryd.ntmps4
              go_wp2
              go_ret
              exact ⟨by first | rfl | (simp; done) | (simp [*]; done), by repeat (first | exact Drawn0.refl _ | apply Drawn0.step)⟩
            · rw [if_neg c46] at H
              have c46b0 : decide (100 ≤ a0) = false := decide_eq_false c46
              clear c46
              obtain rfl := Option.some.inj H
              go_enter Tryd.func4, Tryd.ntmps4
              go_wp2
              go_ret
              exact ⟨by first | rfl | (simp; done) | (simp [*]; done), by repeat (first | exact Drawn0.refl _ | apply Drawn0.step)⟩
        · rw [if_neg c44] at H
          have c44b0 : decide (90 ≤ a0) = false := decide_eq_false c44
          clear c44
          by_cases c47 : a0 ≥ 100
          · rw [if_pos c47] at H
            have c47b0 : decide (100 ≤ a0) = true := decide_eq_true c47
            clear c47
            obtain rfl := Option.some.inj H
            go_enter Tryd.func4, Tryd.ntmps4
            go_wp2
            go_ret
            exact ⟨by first | rfl | (simp; done) | (simp [*]; done), by repeat (first | exact Drawn0.refl _ | apply Drawn0.step)⟩
          · rw [if_neg c47] at H
            have c47b0 : decide (100 ≤ a0) = false := decide_eq_false c47
            clear c47
            obtain rfl := Option.some.inj H
            go_enter Tryd.func4, Tryd.ntmps4
            go_wp2
            go_ret
            exact ⟨by first | rfl | (simp; done) | (simp [*]; done), by repeat (first | exact Drawn0.refl _ | apply Drawn0.step)⟩

-- BY HAND: function 13 (lightstrconv_FormatUint)

/-! ### lightstrconv_FormatInt: function 11 -/
def lightstrconv_FormatInt.f (a0 : Int) (a1 : Int) : Option (ByteArray) := if a0 < 0 then ((lightstrconv_FormatUint.f (IntKind.u64.wrap (-(IntKind.u64.wrap (a0)))) a1).bind fun t101 => (if 1 + t101.size ≤ 9223372036854775807 then (some ((⟨#[45]⟩ : ByteArray) ++ t101)) else (none))) else ((lightstrconv_FormatUint.f (IntKind.u64.wrap (a0)) a1).bind fun t102 => (some t102))
set_option maxHeartbeats 8000000 in
set_option maxRecDepth 100000 in
theorem lightstrconv_FormatInt.calls (a0 : Int) (a1 : Int) (r : ByteArray) (w : World) (h : lightstrconv_FormatInt.f a0 a1 = some r) :
    Calls Tryd.prog 11 #[.int .i64 a0, .int .i64 a1] w fun e w' => e = .returned (.string r) ∧ Below w.heap.size w w' := by
  have HB := Aside0.mk (Below.refl w.heap.size w)
  have H : (if a0 < 0 then ((lightstrconv_FormatUint.f (IntKind.u64.wrap (-(IntKind.u64.wrap (a0)))) a1).bind fun t101 => (if 1 + t101.size ≤ 9223372036854775807 then (some ((⟨#[45]⟩ : ByteArray) ++ t101)) else (none))) else ((lightstrconv_FormatUint.f (IntKind.u64.wrap (a0)) a1).bind fun t102 => (some t102))) = some r := h
  clear h
  by_cases c3 : a0 < 0
  · rw [if_pos c3] at H
    have c3b0 : decide (a0 < 0) = true := decide_eq_true c3
    clear c3
    replace H := Option.bind_eq_some_iff.mp H
    obtain ⟨t101, A40, H⟩ := H
    replace H : (if 1 + t101.size ≤ 9223372036854775807 then (some ((⟨#[45]⟩ : ByteArray) ++ t101)) else (none)) = some r := H
    have A4 := Aside0.mk A40
    clear A40
    by_cases c5 : 1 + t101.size ≤ 9223372036854775807
    · rw [if_pos c5] at H
      have c5b0 := eq_true c5
      have c5b1 : decide (1 + t101.size ≤ 9223372036854775807) = true := decide_eq_true c5
      try have c5b2 : (9223372036854775807 < 1 + t101.size) = False := eq_false (Nat.not_lt.2 c5)
      obtain rfl := Option.some.inj H
      go_enter Tryd.func11, Tryd.ntmps11
      go_wp2_with (first | ((with_reducible refine gate_callee (f := 13) rfl ?_); refine goesL_ (some 11) rfl rfl Tryd.func13 (by kernel_rfl) rfl #[.int .u64 (IntKind.u64.wrap (-(IntKind.u64.wrap (a0)))), .int .i64 a1] rfl (by (try simp only [List.map_toArray, List.map_cons, List.map_nil]); first | done | rfl | (simp only [List.length_drop, List.length_take]; rfl)) ?_; (with_reducible refine (lightstrconv_FormatUint.calls (IntKind.u64.wrap (-(IntKind.u64.wrap (a0)))) a1 t101 _ A4.out).mono ?_); rintro e w6 ⟨rfl, hb⟩; refine ⟨_, rfl, ?_⟩; have n0_ := Aside0.mk (below_step (by repeat (first | (with_reducible first | exact HB.out | apply below_alloc | apply pw_below_drewN | apply below_drew1) | exact HB.out)) hb); clear HB; have HB := n0_; clear n0_; (try clear hb); (try clear hb2); (try clear hk); (try clear hi)))
      go_ret
      exact ⟨by first | rfl | (simp [errW_none, errW_some] <;> rfl) | (simp [*, errW_none, errW_some] <;> rfl), by repeat (first | (with_reducible first | exact HB.out | apply below_alloc | apply pw_below_drewN | apply below_drew1) | exact HB.out)⟩
    · rw [if_neg c5] at H
      exact absurd H (by simp)
  · rw [if_neg c3] at H
    have c3b0 : decide (a0 < 0) = false := decide_eq_false c3
    clear c3
    replace H := Option.bind_eq_some_iff.mp H
    obtain ⟨t102, A70, H⟩ := H
    replace H : (some t102) = some r := H
    have A7 := Aside0.mk A70
    clear A70
    obtain rfl := Option.some.inj H
    go_enter Tryd.func11, Tryd.ntmps11
    go_wp2_with (first | ((with_reducible refine gate_callee (f := 13) rfl ?_); refine goesL_ (some 16) rfl rfl Tryd.func13 (by kernel_rfl) rfl #[.int .u64 (IntKind.u64.wrap (a0)), .int .i64 a1] rfl (by (try simp only [List.map_toArray, List.map_cons, List.map_nil]); first | done | rfl | (simp only [List.length_drop, List.length_take]; rfl)) ?_; (with_reducible refine (lightstrconv_FormatUint.calls (IntKind.u64.wrap (a0)) a1 t102 _ A7.out).mono ?_); rintro e w8 ⟨rfl, hb⟩; refine ⟨_, rfl, ?_⟩; have n0_ := Aside0.mk (below_step (by repeat (first | (with_reducible first | exact HB.out | apply below_alloc | apply pw_below_drewN | apply below_drew1) | exact HB.out)) hb); clear HB; have HB := n0_; clear n0_; (try clear hb); (try clear hb2); (try clear hk); (try clear hi)))
    go_ret
    exact ⟨by first | rfl | (simp [errW_none, errW_some] <;> rfl) | (simp [*, errW_none, errW_some] <;> rfl), by repeat (first | (with_reducible first | exact HB.out | apply below_alloc | apply pw_below_drewN | apply below_drew1) | exact HB.out)⟩

/-! ### lightstrconv_Itoa: function 9 -/
def lightstrconv_Itoa.f (a0 : Int) : Option (ByteArray) := (lightstrconv_FormatInt.f a0 10).bind fun t103 => (some t103)
set_option maxHeartbeats 8000000 in
set_option maxRecDepth 100000 in
theorem lightstrconv_Itoa.calls (a0 : Int) (r : ByteArray) (w : World) (h : lightstrconv_Itoa.f a0 = some r) :
    Calls Tryd.prog 9 #[.int .i64 a0] w fun e w' => e = .returned (.string r) ∧ Below w.heap.size w w' := by
  have HB := Aside0.mk (Below.refl w.heap.size w)
  have H : ((lightstrconv_FormatInt.f a0 10).bind fun t103 => (some t103)) = some r := h
  clear h
  replace H := Option.bind_eq_some_iff.mp H
  obtain ⟨t103, A20, H⟩ := H
  replace H : (some t103) = some r := H
  have A2 := Aside0.mk A20
  clear A20
  obtain rfl := Option.some.inj H
  go_enter Tryd.func9, Tryd.ntmps9
  go_wp2_with (first | ((with_reducible refine gate_callee (f := 11) rfl ?_); refine goesL_ (some 4) rfl rfl Tryd.func11 (by kernel_rfl) rfl #[.int .i64 a0, .int .i64 10] rfl (by (try simp only [List.map_toArray, List.map_cons, List.map_nil]); first | done | rfl | (simp only [List.length_drop, List.length_take]; rfl)) ?_; (with_reducible refine (lightstrconv_FormatInt.calls a0 10 t103 _ A2.out).mono ?_); rintro e w3 ⟨rfl, hb⟩; refine ⟨_, rfl, ?_⟩; have n0_ := Aside0.mk (below_step (by repeat (first | (with_reducible first | exact HB.out | apply below_alloc | apply pw_below_drewN | apply below_drew1) | exact HB.out)) hb); clear HB; have HB := n0_; clear n0_; (try clear hb); (try clear hb2); (try clear hk); (try clear hi)))
  go_ret
  exact ⟨by first | rfl | (simp [errW_none, errW_some] <;> rfl) | (simp [*, errW_none, errW_some] <;> rfl), by repeat (first | (with_reducible first | exact HB.out | apply below_alloc | apply pw_below_drewN | apply below_drew1) | exact HB.out)⟩

/-! ### text_Color_EscapeSeq: function 7 -/
mutual
def text_Color_EscapeSeq.j0 : Nat → Int → Bool → Option (ByteArray)
  | 0, _, _ => none
  | k + 1, x0, x10 => if x10 = true then ((lightstrconv_Itoa.f (wrap64 (x0 - 1000))).bind fun t104 => (if 7 + t104.size ≤ 9223372036854775807 then (if ((⟨#[27, 91, 51, 56, 59, 53, 59]⟩ : ByteArray) ++ t104).size + 1 ≤ 9223372036854775807 then (some (((⟨#[27, 91, 51, 56, 59, 53, 59]⟩ : ByteArray) ++ t104) ++ (⟨#[109]⟩ : ByteArray))) else (none)) else (none))) else (if x0 ≥ 2000 then (text_Color_EscapeSeq.j1 k x0 (decide (x0 < 2256))) else (text_Color_EscapeSeq.j1 k x0 false))
def text_Color_EscapeSeq.j1 : Nat → Int → Bool → Option (ByteArray)
  | 0, _, _ => none
  | k + 1, x0, x22 => if x22 = true then ((lightstrconv_Itoa.f (wrap64 (x0 - 2000))).bind fun t105 => (if 7 + t105.size ≤ 9223372036854775807 then (if ((⟨#[27, 91, 52, 56, 59, 53, 59]⟩ : ByteArray) ++ t105).size + 1 ≤ 9223372036854775807 then (some (((⟨#[27, 91, 52, 56, 59, 53, 59]⟩ : ByteArray) ++ t105) ++ (⟨#[109]⟩ : ByteArray))) else (none)) else (none))) else ((lightstrconv_Itoa.f x0).bind fun t106 => (if 2 + t106.size ≤ 9223372036854775807 then (if ((⟨#[27, 91]⟩ : ByteArray) ++ t106).size + 1 ≤ 9223372036854775807 then (some (((⟨#[27, 91]⟩ : ByteArray) ++ t106) ++ (⟨#[109]⟩ : ByteArray))) else (none)) else (none)))
end
def text_Color_EscapeSeq.f (k : Nat) (a0 : Int) : Option (ByteArray) := if a0 ≥ 1000 then (text_Color_EscapeSeq.j0 k a0 (decide (a0 < 1256))) else (text_Color_EscapeSeq.j0 k a0 false)
theorem text_Color_EscapeSeq.mono_l : ∀ k, (∀ y0 y1, LeO (text_Color_EscapeSeq.j0 k y0 y1) (text_Color_EscapeSeq.j0 (k + 1) y0 y1)) ∧ (∀ y0 y1, LeO (text_Color_EscapeSeq.j1 k y0 y1) (text_Color_EscapeSeq.j1 (k + 1) y0 y1))
  | 0 => ⟨fun _ _ r h => by simp [text_Color_EscapeSeq.j0] at h, fun _ _ r h => by simp [text_Color_EscapeSeq.j1] at h⟩
  | k + 1 => by
    obtain ⟨ih0, ih1⟩ := text_Color_EscapeSeq.mono_l k
    refine ⟨?_, ?_⟩
    · intro y0 y1
      unfold text_Color_EscapeSeq.j0
      repeat' first
      | (with_reducible exact ih0 _ _)
      | (with_reducible exact ih1 _ _)
      | (with_reducible exact LeO.refl _)
      | (with_reducible exact LeO.none _)
      | (with_reducible refine LeO.ite ?_ ?_)
      | (with_reducible refine LeO.bind ?_ (fun _ => ?_))
      | exact ih0 _ _
      | exact ih1 _ _
      | exact LeO.none _
      | refine LeO.ite ?_ ?_
      | refine LeO.bind ?_ (fun _ => ?_)
    · intro y0 y1
      unfold text_Color_EscapeSeq.j1
      repeat' first
      | (with_reducible exact ih0 _ _)
      | (with_reducible exact ih1 _ _)
      | (with_reducible exact LeO.refl _)
      | (with_reducible exact LeO.none _)
      | (with_reducible refine LeO.ite ?_ ?_)
      | (with_reducible refine LeO.bind ?_ (fun _ => ?_))
      | exact ih0 _ _
      | exact ih1 _ _
      | exact LeO.none _
      | refine LeO.ite ?_ ?_
      | refine LeO.bind ?_ (fun _ => ?_)
theorem text_Color_EscapeSeq.mono : ∀ a0 k, LeO (text_Color_EscapeSeq.f k a0) (text_Color_EscapeSeq.f (k + 1) a0) := by
  intro a0 k
  obtain ⟨ih0, ih1⟩ := text_Color_EscapeSeq.mono_l k
  unfold text_Color_EscapeSeq.f
  repeat' first
      | (with_reducible exact ih0 _ _)
      | (with_reducible exact ih1 _ _)
      | (with_reducible exact LeO.refl _)
      | (with_reducible exact LeO.none _)
      | (with_reducible refine LeO.ite ?_ ?_)
      | (with_reducible refine LeO.bind ?_ (fun _ => ?_))
      | exact ih0 _ _
      | exact ih1 _ _
      | exact LeO.none _
      | refine LeO.ite ?_ ?_
      | refine LeO.bind ?_ (fun _ => ?_)
set_option maxHeartbeats 8000000 in
set_option maxRecDepth 100000 in
theorem text_Color_EscapeSeq.calls (k : Nat) (a0 : Int) (r : ByteArray) (w : World) (h : text_Color_EscapeSeq.f k a0 = some r) :
    Calls Tryd.prog 7 #[.int .i64 a0] w fun e w' => e = .returned (.string r) ∧ Below w.heap.size w w' := by
  have HB := Aside0.mk (Below.refl w.heap.size w)
  have H : (if a0 ≥ 1000 then (text_Color_EscapeSeq.j0 k a0 (decide (a0 < 1256))) else (text_Color_EscapeSeq.j0 k a0 false)) = some r := h
  clear h
  have HC2 := Aside0.mk H
  clear H
  go_enter Tryd.func7, Tryd.ntmps7
  go_upto_region 1 with (fail)
  go_cut [10] (fun v10 wc => ∃ (kq : Nat) (x10_1 : Bool), v10 = .bool x10_1 ∧ Aside0 (text_Color_EscapeSeq.j0 kq a0 x10_1 = some r) ∧ Aside0 (kq ≤ k) ∧ Aside0 (Below w.heap.size w wc))
  case first =>
    have H := HC2.out
    clear HC2
    by_cases c3 : a0 ≥ 1000
    · rw [if_pos c3] at H
      have c3b0 : decide (1000 ≤ a0) = true := decide_eq_true c3
      clear c3
      (first | rw [c3b0] | (simp only [i64_w, i32_w]; rw [c3b0]) | skip)
      have H' := Aside0.mk H
      clear H
      go_wp2
      go_meet
      case rel => exact ⟨_, (decide (a0 < 1256)), (by first | rfl | (simp; done) | (simp [*]; done)), H', ⟨by first | omega | exact Nat.le_refl _⟩, ⟨by repeat (first | (with_reducible first | exact HB.out | apply below_alloc | apply pw_below_drewN | apply below_drew1) | exact HB.out)⟩⟩
    · rw [if_neg c3] at H
      have c3b0 : decide (1000 ≤ a0) = false := decide_eq_false c3
      clear c3
      (first | rw [c3b0] | (simp only [i64_w, i32_w]; rw [c3b0]) | skip)
      have H' := Aside0.mk H
      clear H
      go_wp2
      go_meet
      case rel => exact ⟨_, (false), (by first | rfl | (simp; done) | (simp [*]; done)), H', ⟨by first | omega | exact Nat.le_refl _⟩, ⟨by repeat (first | (with_reducible first | exact HB.out | apply below_alloc | apply pw_below_drewN | apply below_drew1) | exact HB.out)⟩⟩
  case rest =>
    clear HC2
    try clear p2
    try clear c3
    try clear c3b0
    obtain ⟨kq, x10_1, rfl, HA, HJ1, HB⟩ := hcut
    cases kq with
    | zero => exact absurd HA.out (by simp [text_Color_EscapeSeq.j0])
    | succ kj1 =>
      have H := HA.out
      clear HA
      simp only [text_Color_EscapeSeq.j0] at H
      by_cases c4 : x10_1 = true
      · subst c4
        have H1 : ((lightstrconv_Itoa.f (wrap64 (a0 - 1000))).bind fun t104 => (if 7 + t104.size ≤ 9223372036854775807 then (if ((⟨#[27, 91, 51, 56, 59, 53, 59]⟩ : ByteArray) ++ t104).size + 1 ≤ 9223372036854775807 then (some (((⟨#[27, 91, 51, 56, 59, 53, 59]⟩ : ByteArray) ++ t104) ++ (⟨#[109]⟩ : ByteArray))) else (none)) else (none))) = some r := by rw [if_pos rfl] at H; exact H
        clear H
        have H := H1
        clear H1
        replace H := Option.bind_eq_some_iff.mp H
        obtain ⟨t104, A50, H⟩ := H
        replace H : (if 7 + t104.size ≤ 9223372036854775807 then (if ((⟨#[27, 91, 51, 56, 59, 53, 59]⟩ : ByteArray) ++ t104).size + 1 ≤ 9223372036854775807 then (some (((⟨#[27, 91, 51, 56, 59, 53, 59]⟩ : ByteArray) ++ t104) ++ (⟨#[109]⟩ : ByteArray))) else (none)) else (none)) = some r := H
        have A5 := Aside0.mk A50
        clear A50
        by_cases c6 : 7 + t104.size ≤ 9223372036854775807
        · rw [if_pos c6] at H
          have c6b0 := eq_true c6
          have c6b1 : decide (7 + t104.size ≤ 9223372036854775807) = true := decide_eq_true c6
          try have c6b2 : (9223372036854775807 < 7 + t104.size) = False := eq_false (Nat.not_lt.2 c6)
          by_cases c7 : ((⟨#[27, 91, 51, 56, 59, 53, 59]⟩ : ByteArray) ++ t104).size + 1 ≤ 9223372036854775807
          · rw [if_pos c7] at H
            have c7b0 := eq_true c7
            have c7b1 : decide (((⟨#[27, 91, 51, 56, 59, 53, 59]⟩ : ByteArray) ++ t104).size + 1 ≤ 9223372036854775807) = true := decide_eq_true c7
            try have c7b2 : (9223372036854775807 < ((⟨#[27, 91, 51, 56, 59, 53, 59]⟩ : ByteArray) ++ t104).size + 1) = False := eq_false (Nat.not_lt.2 c7)
            try have c7b3 : (9223372036854775807 < 7 + t104.size + 1) = False := eq_false (Nat.not_lt.2 (by have z_ := c7; simp only [ByteArray.size_append] at z_; exact z_))
            obtain rfl := Option.some.inj H
            go_wp2_with (first | ((with_reducible refine gate_callee (f := 9) rfl ?_); refine goesL_ (some 14) rfl rfl Tryd.func9 (by kernel_rfl) rfl #[.int .i64 (wrap64 (a0 - 1000))] rfl (by (try simp only [List.map_toArray, List.map_cons, List.map_nil]); first | done | rfl | (simp only [List.length_drop, List.length_take]; rfl)) ?_; (with_reducible refine (lightstrconv_Itoa.calls (wrap64 (a0 - 1000)) t104 _ A5.out).mono ?_); rintro e w8 ⟨rfl, hb⟩; refine ⟨_, rfl, ?_⟩; have n0_ := Aside0.mk (below_step (by repeat (first | (with_reducible first | exact HB.out | apply below_alloc | apply pw_below_drewN | apply below_drew1) | exact HB.out)) hb); clear HB; have HB := n0_; clear n0_; (try clear hb); (try clear hb2); (try clear hk); (try clear hi)))
            go_ret
            exact ⟨by first | rfl | (simp [errW_none, errW_some] <;> rfl) | (simp [*, errW_none, errW_some] <;> rfl), by repeat (first | (with_reducible first | exact HB.out | apply below_alloc | apply pw_below_drewN | apply below_drew1) | exact HB.out)⟩
          · rw [if_neg c7] at H
            exact absurd H (by simp)
        · rw [if_neg c6] at H
          exact absurd H (by simp)
      · replace c4 := Bool.eq_false_iff.mpr c4
        subst c4
        have H1 : (if a0 ≥ 2000 then (text_Color_EscapeSeq.j1 kj1 a0 (decide (a0 < 2256))) else (text_Color_EscapeSeq.j1 kj1 a0 false)) = some r := by rw [if_neg (show ¬ (false = true) by decide)] at H; exact H
        clear H
        have H := H1
        clear H1
        have HC9 := Aside0.mk H
        clear H
        go_upto_region 4 with (fail)
        go_cut [22] (fun v22 wc => ∃ (kq : Nat) (x22_8 : Bool), v22 = .bool x22_8 ∧ Aside0 (text_Color_EscapeSeq.j1 kq a0 x22_8 = some r) ∧ Aside0 (kq ≤ kj1) ∧ Aside0 (Below w.heap.size w wc))
        case first =>
          have H := HC9.out
          clear HC9
          by_cases c10 : a0 ≥ 2000
          · rw [if_pos c10] at H
            have c10b0 : decide (2000 ≤ a0) = true := decide_eq_true c10
            clear c10
            (first | rw [c10b0] | (simp only [i64_w, i32_w]; rw [c10b0]) | skip)
            have H' := Aside0.mk H
            clear H
            go_wp2
            go_meet
            case rel => exact ⟨_, (decide (a0 < 2256)), (by first | rfl | (simp; done) | (simp [*]; done)), H', ⟨by have := HJ1.out; first | omega | exact Nat.le_refl _⟩, ⟨by repeat (first | (with_reducible first | exact HB.out | apply below_alloc | apply pw_below_drewN | apply below_drew1) | exact HB.out)⟩⟩
          · rw [if_neg c10] at H
            have c10b0 : decide (2000 ≤ a0) = false := decide_eq_false c10
            clear c10
            (first | rw [c10b0] | (simp only [i64_w, i32_w]; rw [c10b0]) | skip)
            have H' := Aside0.mk H
            clear H
            go_wp2
            go_meet
            case rel => exact ⟨_, (false), (by first | rfl | (simp; done) | (simp [*]; done)), H', ⟨by have := HJ1.out; first | omega | exact Nat.le_refl _⟩, ⟨by repeat (first | (with_reducible first | exact HB.out | apply below_alloc | apply pw_below_drewN | apply below_drew1) | exact HB.out)⟩⟩
        case rest =>
          clear HC9
          try clear c1
          try clear p2
          try clear c3
          try clear c3b0
          try clear c4
          try clear c6
          try clear c6b0
          try clear c6b1
          try clear c6b2
          try clear p6
          try clear c7
          try clear c7b0
          try clear c7b1
          try clear c7b2
          try clear c9
          try clear c10
          try clear c10b0
          try clear p2
          obtain ⟨kq, x22_8, rfl, HA, HJ8, HB⟩ := hcut
          cases kq with
          | zero => exact absurd HA.out (by simp [text_Color_EscapeSeq.j1])
          | succ kj8 =>
            have H := HA.out
            clear HA
            simp only [text_Color_EscapeSeq.j1] at H
            by_cases c11 : x22_8 = true
            · subst c11
              have H1 : ((lightstrconv_Itoa.f (wrap64 (a0 - 2000))).bind fun t105 => (if 7 + t105.size ≤ 9223372036854775807 then (if ((⟨#[27, 91, 52, 56, 59, 53, 59]⟩ : ByteArray) ++ t105).size + 1 ≤ 9223372036854775807 then (some (((⟨#[27, 91, 52, 56, 59, 53, 59]⟩ : ByteArray) ++ t105) ++ (⟨#[109]⟩ : ByteArray))) else (none)) else (none))) = some r := by rw [if_pos rfl] at H; exact H
              clear H
              have H := H1
              clear H1
              replace H := Option.bind_eq_some_iff.mp H
              obtain ⟨t105, A120, H⟩ := H
              replace H : (if 7 + t105.size ≤ 9223372036854775807 then (if ((⟨#[27, 91, 52, 56, 59, 53, 59]⟩ : ByteArray) ++ t105).size + 1 ≤ 9223372036854775807 then (some (((⟨#[27, 91, 52, 56, 59, 53, 59]⟩ : ByteArray) ++ t105) ++ (⟨#[109]⟩ : ByteArray))) else (none)) else (none)) = some r := H
              have A12 := Aside0.mk A120
              clear A120
              by_cases c13 : 7 + t105.size ≤ 9223372036854775807
              · rw [if_pos c13] at H
                have c13b0 := eq_true c13
                have c13b1 : decide (7 + t105.size ≤ 9223372036854775807) = true := decide_eq_true c13
                try have c13b2 : (9223372036854775807 < 7 + t105.size) = False := eq_false (Nat.not_lt.2 c13)
                by_cases c14 : ((⟨#[27, 91, 52, 56, 59, 53, 59]⟩ : ByteArray) ++ t105).size + 1 ≤ 9223372036854775807
                · rw [if_pos c14] at H
                  have c14b0 := eq_true c14
                  have c14b1 : decide (((⟨#[27, 91, 52, 56, 59, 53, 59]⟩ : ByteArray) ++ t105).size + 1 ≤ 9223372036854775807) = true := decide_eq_true c14
                  try have c14b2 : (9223372036854775807 < ((⟨#[27, 91, 52, 56, 59, 53, 59]⟩ : ByteArray) ++ t105).size + 1) = False := eq_false (Nat.not_lt.2 c14)
                  try have c14b3 : (9223372036854775807 < 7 + t105.size + 1) = False := eq_false (Nat.not_lt.2 (by have z_ := c14; simp only [ByteArray.size_append] at z_; exact z_))
                  obtain rfl := Option.some.inj H
                  go_wp2_with (first | ((with_reducible refine gate_callee (f := 9) rfl ?_); refine goesL_ (some 26) rfl rfl Tryd.func9 (by kernel_rfl) rfl #[.int .i64 (wrap64 (a0 - 2000))] rfl (by (try simp only [List.map_toArray, List.map_cons, List.map_nil]); first | done | rfl | (simp only [List.length_drop, List.length_take]; rfl)) ?_; (with_reducible refine (lightstrconv_Itoa.calls (wrap64 (a0 - 2000)) t105 _ A12.out).mono ?_); rintro e w15 ⟨rfl, hb⟩; refine ⟨_, rfl, ?_⟩; have n0_ := Aside0.mk (below_step (by repeat (first | (with_reducible first | exact HB.out | apply below_alloc | apply pw_below_drewN | apply below_drew1) | exact HB.out)) hb); clear HB; have HB := n0_; clear n0_; (try clear hb); (try clear hb2); (try clear hk); (try clear hi)))
                  go_ret
                  exact ⟨by first | rfl | (simp [errW_none, errW_some] <;> rfl) | (simp [*, errW_none, errW_some] <;> rfl), by repeat (first | (with_reducible first | exact HB.out | apply below_alloc | apply pw_below_drewN | apply below_drew1) | exact HB.out)⟩
                · rw [if_neg c14] at H
                  exact absurd H (by simp)
              · rw [if_neg c13] at H
                exact absurd H (by simp)
            · replace c11 := Bool.eq_false_iff.mpr c11
              subst c11
              have H1 : ((lightstrconv_Itoa.f a0).bind fun t106 => (if 2 + t106.size ≤ 9223372036854775807 then (if ((⟨#[27, 91]⟩ : ByteArray) ++ t106).size + 1 ≤ 9223372036854775807 then (some (((⟨#[27, 91]⟩ : ByteArray) ++ t106) ++ (⟨#[109]⟩ : ByteArray))) else (none)) else (none))) = some r := by rw [if_neg (show ¬ (false = true) by decide)] at H; exact H
              clear H
              have H := H1
              clear H1
              replace H := Option.bind_eq_some_iff.mp H
              obtain ⟨t106, A160, H⟩ := H
              replace H : (if 2 + t106.size ≤ 9223372036854775807 then (if ((⟨#[27, 91]⟩ : ByteArray) ++ t106).size + 1 ≤ 9223372036854775807 then (some (((⟨#[27, 91]⟩ : ByteArray) ++ t106) ++ (⟨#[109]⟩ : ByteArray))) else (none)) else (none)) = some r := H
              have A16 := Aside0.mk A160
              clear A160
              by_cases c17 : 2 + t106.size ≤ 9223372036854775807
              · rw [if_pos c17] at H
                have c17b0 := eq_true c17
                have c17b1 : decide (2 + t106.size ≤ 9223372036854775807) = true := decide_eq_true c17
                try have c17b2 : (9223372036854775807 < 2 + t106.size) = False := eq_false (Nat.not_lt.2 c17)
                by_cases c18 : ((⟨#[27, 91]⟩ : ByteArray) ++ t106).size + 1 ≤ 9223372036854775807
                · rw [if_pos c18] at H
                  have c18b0 := eq_true c18
                  have c18b1 : decide (((⟨#[27, 91]⟩ : ByteArray) ++ t106).size + 1 ≤ 9223372036854775807) = true := decide_eq_true c18
                  try have c18b2 : (9223372036854775807 < ((⟨#[27, 91]⟩ : ByteArray) ++ t106).size + 1) = False := eq_false (Nat.not_lt.2 c18)
                  try have c18b3 : (9223372036854775807 < 2 + t106.size + 1) = False := eq_false (Nat.not_lt.2 (by have z_ := c18; simp only [ByteArray.size_append] at z_; exact z_))
                  obtain rfl := Option.some.inj H
                  go_wp2_with (first | ((with_reducible refine gate_callee (f := 9) rfl ?_); refine goesL_ (some 30) rfl rfl Tryd.func9 (by kernel_rfl) rfl #[.int .i64 a0] rfl (by (try simp only [List.map_toArray, List.map_cons, List.map_nil]); first | done | rfl | (simp only [List.length_drop, List.length_take]; rfl)) ?_; (with_reducible refine (lightstrconv_Itoa.calls a0 t106 _ A16.out).mono ?_); rintro e w19 ⟨rfl, hb⟩; refine ⟨_, rfl, ?_⟩; have n0_ := Aside0.mk (below_step (by repeat (first | (with_reducible first | exact HB.out | apply below_alloc | apply pw_below_drewN | apply below_drew1) | exact HB.out)) hb); clear HB; have HB := n0_; clear n0_; (try clear hb); (try clear hb2); (try clear hk); (try clear hi)))
                  go_ret
                  exact ⟨by first | rfl | (simp [errW_none, errW_some] <;> rfl) | (simp [*, errW_none, errW_some] <;> rfl), by repeat (first | (with_reducible first | exact HB.out | apply below_alloc | apply pw_below_drewN | apply below_drew1) | exact HB.out)⟩
                · rw [if_neg c18] at H
                  exact absurd H (by simp)
              · rw [if_neg c17] at H
                exact absurd H (by simp)

end Go.Proofs.YtimefacdnabkdabDoor.PFnTextColorSeq
