-- Written by hprint.py, a program of this session
import Derived.Test.YtmadlpclnlbpgaaDoorPFnIsNumericNotx0
namespace Go.Proofs.YtmadlpclnlbpgaaDoor.PFnIsNumericNot
open Go.RowKit Go.Proofs.YtmadlpclnlbpgaaDoor.Hand Go.Proofs.YtmadlpclnlbpgaaDoorW.PrintWords Go.Proofs.YtmadlpclnlbpgaaDoorW.PrintLast Go.Proofs.YtmadlpclnlbpgaaDoorW.PrintMore
attribute [local go_sem] max2_int min2_int max_two min_two max_three min_three max_four min_four   -- for this text's walks alone
set_option linter.unusedVariables false
set_option linter.unusedSimpArgs false

/-! ### spec_TwPlain: function 6 -/
def spec_TwPlain.l0 : Nat → ByteArray → Int → Option (Bool)
  | 0, _, _ => none
  | k + 1, x0, x3 => if x3 < (x0.size : Int) then (if 0 ≤ x3 then (if (bt x0 x3) < 32 then (some false) else (if (bt x0 x3) > 126 then (some false) else (spec_TwPlain.l0 k x0 (wrap64 (x3 + 1))))) else (none)) else (some true)
def spec_TwPlain.f (k : Nat) (a0 : ByteArray) : Option (Bool) := spec_TwPlain.l0 k a0 0
theorem spec_TwPlain.mono_l : ∀ k, (∀ y0 y1, LeO (spec_TwPlain.l0 k y0 y1) (spec_TwPlain.l0 (k + 1) y0 y1))
  | 0 => fun _ _ r h => by simp [spec_TwPlain.l0] at h
  | k + 1 => by
    have ih0 := spec_TwPlain.mono_l k
    · intro y0 y1
      unfold spec_TwPlain.l0
      repeat' first
      | (with_reducible exact ih0 _ _)
      | (with_reducible exact LeO.refl _)
      | (with_reducible exact LeO.none _)
      | (with_reducible refine LeO.ite ?_ ?_)
      | (with_reducible refine LeO.bind ?_ (fun _ => ?_))
      | exact ih0 _ _
      | exact LeO.none _
      | refine LeO.ite ?_ ?_
      | refine LeO.bind ?_ (fun _ => ?_)
theorem spec_TwPlain.mono : ∀ a0 k, LeO (spec_TwPlain.f k a0) (spec_TwPlain.f (k + 1) a0) := by
  intro a0 k
  have ih0 := spec_TwPlain.mono_l k
  unfold spec_TwPlain.f
  repeat' first
      | (with_reducible exact ih0 _ _)
      | (with_reducible exact LeO.refl _)
      | (with_reducible exact LeO.none _)
      | (with_reducible refine LeO.ite ?_ ?_)
      | (with_reducible refine LeO.bind ?_ (fun _ => ?_))
      | exact ih0 _ _
      | exact LeO.none _
      | refine LeO.ite ?_ ?_
      | refine LeO.bind ?_ (fun _ => ?_)
set_option maxHeartbeats 8000000 in
set_option maxRecDepth 100000 in
theorem spec_TwPlain.calls (k : Nat) (a0 : ByteArray) (r : Bool) (w : World) (h : spec_TwPlain.f k a0 = some r) :
    Calls Tryd.prog 6 #[.string a0] w fun e w' => e = .returned (.bool r) ∧ Drawn0 w w' := by
  have H : (spec_TwPlain.l0 k a0 0) = some r := h
  clear h
  have H' := Aside0.mk H
  clear H
  go_enter Tryd.func6, Tryd.ntmps6
  go_wp2
  go_loopg [3] k (fun kq v3 w' => ∃ (x3_1 : Int), v3 = .int .i64 x3_1 ∧ Aside0 (spec_TwPlain.l0 kq a0 x3_1 = some r) ∧ Aside0 (kq ≤ k) ∧ Drawn0 w w')
  case atStart => exact ⟨(0), (by first | rfl | (simp; done) | (simp [*]; done)), H', ⟨Nat.le_refl _⟩, by repeat (first | exact Drawn0.refl _ | apply Drawn0.step)⟩
  case round =>
    clear H'
    obtain ⟨x3_1, rfl, HA, HK1, ⟨m1, rfl⟩⟩ := hrel
    cases gk with
    | zero => exact absurd HA.out (by simp [spec_TwPlain.l0])
    | succ k1 =>
      have H := HA.out
      clear HA
      simp only [spec_TwPlain.l0] at H
      by_cases c2 : x3_1 < (a0.size : Int)
      · rw [if_pos c2] at H
        have c2b0 : decide (x3_1 < (a0.size : Int)) = true := decide_eq_true c2
        clear c2
        by_cases c3 : 0 ≤ x3_1
        · rw [if_pos c3] at H
          have c3b0 : decide (0 ≤ x3_1) = true := decide_eq_true c3
          clear c3
          by_cases c5 : (bt a0 x3_1) < 32
          · rw [if_pos c5] at H
            have c5b0 : decide ((bt a0 x3_1) < 32) = true := decide_eq_true c5
            clear c5
            obtain rfl := Option.some.inj H
            have p4 : 0 ≤ (x3_1 : Int) := of_decide_eq_true (by first | (with_reducible assumption) | assumption)
            have q4 : x3_1 < (a0.size : Int) := of_decide_eq_true (by first | (with_reducible assumption) | assumption)
            have hx4 := bt_at a0 x3_1
            replace p4 := eq_true p4
            replace q4 := eq_true q4
            go_wp2
            go_ret
            exact ⟨by first | rfl | (simp; done) | (simp [*]; done), by repeat (first | exact Drawn0.refl _ | apply Drawn0.step)⟩
          · rw [if_neg c5] at H
            have c5b0 : decide ((bt a0 x3_1) < 32) = false := decide_eq_false c5
            clear c5
            by_cases c7 : (bt a0 x3_1) > 126
            · rw [if_pos c7] at H
              have c7b0 : decide (126 < (bt a0 x3_1)) = true := decide_eq_true c7
              clear c7
              obtain rfl := Option.some.inj H
              have p4 : 0 ≤ (x3_1 : Int) := of_decide_eq_true (by first | (with_reducible assumption) | assumption)
              have q4 : x3_1 < (a0.size : Int) := of_decide_eq_true (by first | (with_reducible assumption) | assumption)
              have hx4 := bt_at a0 x3_1
              replace p4 := eq_true p4
              replace q4 := eq_true q4
              have p6 : 0 ≤ (x3_1 : Int) := of_decide_eq_true (by first | (with_reducible assumption) | assumption)
              have q6 : x3_1 < (a0.size : Int) := of_decide_eq_true (by first | (with_reducible assumption) | assumption)
              have hx6 := bt_at a0 x3_1
              replace p6 := eq_true p6
              replace q6 := eq_true q6
              go_wp2
              go_ret
              exact ⟨by first | rfl | (simp; done) | (simp [*]; done), by repeat (first | exact Drawn0.refl _ | apply Drawn0.step)⟩
            · rw [if_neg c7] at H
              have c7b0 : decide (126 < (bt a0 x3_1)) = false := decide_eq_false c7
              clear c7
              have H' := Aside0.mk H
              clear H
              have p4 : 0 ≤ (x3_1 : Int) := of_decide_eq_true (by first | (with_reducible assumption) | assumption)
              have q4 : x3_1 < (a0.size : Int) := of_decide_eq_true (by first | (with_reducible assumption) | assumption)
              have hx4 := bt_at a0 x3_1
              replace p4 := eq_true p4
              replace q4 := eq_true q4
              have p6 : 0 ≤ (x3_1 : Int) := of_decide_eq_true (by first | (with_reducible assumption) | assumption)
              have q6 : x3_1 < (a0.size : Int) := of_decide_eq_true (by first | (with_reducible assumption) | assumption)
              have hx6 := bt_at a0 x3_1
              replace p6 := eq_true p6
              replace q6 := eq_true q6
              go_wp2
              go_roundg k1
              case measure => have := HK1.out; omega
              case rel => exact ⟨(wrap64 (x3_1 + 1)), (by first | rfl | (simp; done) | (simp [*]; done)), H', ⟨by have := HK1.out; omega⟩, by repeat (first | exact Drawn0.refl _ | apply Drawn0.step)⟩
        · rw [if_neg c3] at H
          exact absurd H (by simp)
      · rw [if_neg c2] at H
        have c2b0 : decide (x3_1 < (a0.size : Int)) = false := decide_eq_false c2
        clear c2
        obtain rfl := Option.some.inj H
        go_wp2
        go_ret
        exact ⟨by first | rfl | (simp; done) | (simp [*]; done), by repeat (first | exact Drawn0.refl _ | apply Drawn0.step)⟩

-- BY HAND: function 9 (impl_TwIsNumeric)

/-! ### laws_FnIsNumericNot: function 4 -/
mutual
def laws_FnIsNumericNot.j0 : Nat → ByteArray → ByteArray → Int → Bool → Option (Bool)
  | 0, _, _, _, _ => none
  | k + 1, x0, x1, x2, x15 => if x15 = true then (some true) else ((spec_TwPlain.f k x0).bind fun t101 => (if t101 = true then ((spec_TwPlain.f k x1).bind fun t102 => (if t102 = true then (laws_FnIsNumericNot.j1 k x0 x1 x2 (decide ((wrap64 ((x0.size : Int) + (x1.size : Int))) > 200))) else (laws_FnIsNumericNot.j1 k x0 x1 x2 true))) else (laws_FnIsNumericNot.j1 k x0 x1 x2 true)))
def laws_FnIsNumericNot.j1 : Nat → ByteArray → ByteArray → Int → Bool → Option (Bool)
  | 0, _, _, _, _ => none
  | k + 1, x0, x1, x2, x31 => if x31 = true then (some true) else (if 0 ≤ (Int.tmod (wrap64 (x2)) 33) then (if (Int.tmod (wrap64 (x2)) 33) ≤ (wrap64 ((Int.tmod (wrap64 (x2)) 33) + 1)) then (if (wrap64 ((Int.tmod (wrap64 (x2)) 33) + 1)) ≤ 33 then (if x0.size + ((⟨#[103, 106, 107, 108, 109, 111, 113, 114, 115, 117, 118, 119, 122, 71, 74, 75, 76, 77, 79, 81, 82, 83, 85, 86, 87, 90, 33, 63, 44, 59, 58, 40, 41]⟩ : ByteArray).extract ((Int.tmod (wrap64 (x2)) 33) : Int).toNat ((wrap64 ((Int.tmod (wrap64 (x2)) 33) + 1)) : Int).toNat).size ≤ 9223372036854775807 then (if (x0 ++ ((⟨#[103, 106, 107, 108, 109, 111, 113, 114, 115, 117, 118, 119, 122, 71, 74, 75, 76, 77, 79, 81, 82, 83, 85, 86, 87, 90, 33, 63, 44, 59, 58, 40, 41]⟩ : ByteArray).extract ((Int.tmod (wrap64 (x2)) 33) : Int).toNat ((wrap64 ((Int.tmod (wrap64 (x2)) 33) + 1)) : Int).toNat)).size + x1.size ≤ 9223372036854775807 then ((impl_TwIsNumeric.f ((x0 ++ ((⟨#[103, 106, 107, 108, 109, 111, 113, 114, 115, 117, 118, 119, 122, 71, 74, 75, 76, 77, 79, 81, 82, 83, 85, 86, 87, 90, 33, 63, 44, 59, 58, 40, 41]⟩ : ByteArray).extract ((Int.tmod (wrap64 (x2)) 33) : Int).toNat ((wrap64 ((Int.tmod (wrap64 (x2)) 33) + 1)) : Int).toNat)) ++ x1)).bind fun t103 => (if t103 = true then (some false) else (if 0 ≤ (Int.tmod x2 10) then (if (Int.tmod x2 10) ≤ (((Int.tmod x2 10) + 1) % 256) then (if (((Int.tmod x2 10) + 1) % 256) ≤ 10 then ((impl_TwIsNumeric.f ((⟨#[48, 49, 50, 51, 52, 53, 54, 55, 56, 57]⟩ : ByteArray).extract ((Int.tmod x2 10) : Int).toNat ((((Int.tmod x2 10) + 1) % 256) : Int).toNat)).bind fun t104 => (some t104)) else (none)) else (none)) else (none)))) else (none)) else (none)) else (none)) else (none)) else (none))
end
def laws_FnIsNumericNot.f (k : Nat) (a0 : ByteArray) (a1 : ByteArray) (a2 : Int) : Option (Bool) := if (a0.size : Int) > 2147483647 then (laws_FnIsNumericNot.j0 k a0 a1 a2 true) else (laws_FnIsNumericNot.j0 k a0 a1 a2 (decide ((a1.size : Int) > 2147483647)))
theorem laws_FnIsNumericNot.mono_l : ∀ k, (∀ y0 y1 y2 y3, LeO (laws_FnIsNumericNot.j0 k y0 y1 y2 y3) (laws_FnIsNumericNot.j0 (k + 1) y0 y1 y2 y3)) ∧ (∀ y0 y1 y2 y3, LeO (laws_FnIsNumericNot.j1 k y0 y1 y2 y3) (laws_FnIsNumericNot.j1 (k + 1) y0 y1 y2 y3))
  | 0 => ⟨fun _ _ _ _ r h => by simp [laws_FnIsNumericNot.j0] at h, fun _ _ _ _ r h => by simp [laws_FnIsNumericNot.j1] at h⟩
  | k + 1 => by
    obtain ⟨ih0, ih1⟩ := laws_FnIsNumericNot.mono_l k
    refine ⟨?_, ?_⟩
    · intro y0 y1 y2 y3
      unfold laws_FnIsNumericNot.j0
      repeat' first
      | (with_reducible exact ih0 _ _ _ _)
      | (with_reducible exact ih1 _ _ _ _)
      | (with_reducible exact spec_TwPlain.mono _ _)
      | (with_reducible exact LeO.refl _)
      | (with_reducible exact LeO.none _)
      | (with_reducible refine LeO.ite ?_ ?_)
      | (with_reducible refine LeO.bind ?_ (fun _ => ?_))
      | exact ih0 _ _ _ _
      | exact ih1 _ _ _ _
      | exact spec_TwPlain.mono _ _
      | exact LeO.none _
      | refine LeO.ite ?_ ?_
      | refine LeO.bind ?_ (fun _ => ?_)
    · intro y0 y1 y2 y3
      unfold laws_FnIsNumericNot.j1
      repeat' first
      | (with_reducible exact ih0 _ _ _ _)
      | (with_reducible exact ih1 _ _ _ _)
      | (with_reducible exact spec_TwPlain.mono _ _)
      | (with_reducible exact LeO.refl _)
      | (with_reducible exact LeO.none _)
      | (with_reducible refine LeO.ite ?_ ?_)
      | (with_reducible refine LeO.bind ?_ (fun _ => ?_))
      | exact ih0 _ _ _ _
      | exact ih1 _ _ _ _
      | exact spec_TwPlain.mono _ _
      | exact LeO.none _
      | refine LeO.ite ?_ ?_
      | refine LeO.bind ?_ (fun _ => ?_)
theorem laws_FnIsNumericNot.mono : ∀ a0 a1 a2 k, LeO (laws_FnIsNumericNot.f k a0 a1 a2) (laws_FnIsNumericNot.f (k + 1) a0 a1 a2) := by
  intro a0 a1 a2 k
  obtain ⟨ih0, ih1⟩ := laws_FnIsNumericNot.mono_l k
  unfold laws_FnIsNumericNot.f
  repeat' first
      | (with_reducible exact ih0 _ _ _ _)
      | (with_reducible exact ih1 _ _ _ _)
      | (with_reducible exact spec_TwPlain.mono _ _)
      | (with_reducible exact LeO.refl _)
      | (with_reducible exact LeO.none _)
      | (with_reducible refine LeO.ite ?_ ?_)
      | (with_reducible refine LeO.bind ?_ (fun _ => ?_))
      | exact ih0 _ _ _ _
      | exact ih1 _ _ _ _
      | exact spec_TwPlain.mono _ _
      | exact LeO.none _
      | refine LeO.ite ?_ ?_
      | refine LeO.bind ?_ (fun _ => ?_)
set_option maxHeartbeats 8000000 in
set_option maxRecDepth 100000 in
theorem laws_FnIsNumericNot.calls (k : Nat) (a0 : ByteArray) (a1 : ByteArray) (a2 : Int) (r : Bool) (w : World) (hT : LaidW w) (h : laws_FnIsNumericNot.f k a0 a1 a2 = some r) :
    Calls Tryd.prog 4 #[.string a0, .string a1, .int .u8 a2] w fun e w' => e = .returned (.bool r) ∧ Below w.heap.size w w' := by
  have HB := Aside0.mk (Below.refl w.heap.size w)
  have H : (if (a0.size : Int) > 2147483647 then (laws_FnIsNumericNot.j0 k a0 a1 a2 true) else (laws_FnIsNumericNot.j0 k a0 a1 a2 (decide ((a1.size : Int) > 2147483647)))) = some r := h
  clear h
  have HC4 := Aside0.mk H
  clear H
  go_enter Tryd.func4, Tryd.ntmps4
  go_upto_region 1 with (fail)
  go_cut [15] (fun v15 wc => ∃ (kq : Nat) (x15_3 : Bool), v15 = .bool x15_3 ∧ Aside0 (laws_FnIsNumericNot.j0 kq a0 a1 a2 x15_3 = some r) ∧ Aside0 (kq ≤ k) ∧ Aside0 (Below w.heap.size w wc))
  case first =>
    have H := HC4.out
    clear HC4
    by_cases c5 : (a0.size : Int) > 2147483647
    · rw [if_pos c5] at H
      have c5b0 : decide (2147483647 < (a0.size : Int)) = true := decide_eq_true c5
      have c5b1 : decide (2147483647 < a0.size) = true := decide_eq_true (by omega)
      clear c5
      (first | rw [c5b0] | (simp only [i64_w, i32_w]; rw [c5b0]) | skip)
      have H' := Aside0.mk H
      clear H
      go_wp2
      go_meet
      case rel => exact ⟨_, (true), (by first | rfl | (simp; done) | (simp [*]; done)), H', ⟨by first | omega | exact Nat.le_refl _⟩, ⟨by repeat (first | (with_reducible first | exact HB.out | apply below_alloc | apply pw_below_drewN | apply below_drew1) | exact HB.out)⟩⟩
    · rw [if_neg c5] at H
      have c5b0 : decide (2147483647 < (a0.size : Int)) = false := decide_eq_false c5
      have c5b1 : decide (2147483647 < a0.size) = false := decide_eq_false (by omega)
      clear c5
      (first | rw [c5b0] | (simp only [i64_w, i32_w]; rw [c5b0]) | skip)
      have H' := Aside0.mk H
      clear H
      go_wp2
      go_meet
      case rel => exact ⟨_, (decide ((a1.size : Int) > 2147483647)), (by first | rfl | (simp; done) | (simp [*]; done)), H', ⟨by first | omega | exact Nat.le_refl _⟩, ⟨by repeat (first | (with_reducible first | exact HB.out | apply below_alloc | apply pw_below_drewN | apply below_drew1) | exact HB.out)⟩⟩
  case rest =>
    clear HC4
    try clear p2
    try clear c4
    try clear c5
    try clear c5b0
    try clear c5b1
    obtain ⟨kq, x15_3, rfl, HA, HJ3, HB⟩ := hcut
    cases kq with
    | zero => exact absurd HA.out (by simp [laws_FnIsNumericNot.j0])
    | succ kj3 =>
      have H := HA.out
      clear HA
      simp only [laws_FnIsNumericNot.j0] at H
      by_cases c6 : x15_3 = true
      · subst c6
        have H1 : (some true) = some r := by rw [if_pos rfl] at H; exact H
        clear H
        have H := H1
        clear H1
        obtain rfl := Option.some.inj H
        go_wp2
        go_ret
        exact ⟨by first | rfl | (simp [errW_none, errW_some] <;> rfl) | (simp [errW_none, errW_some, It.bne_nil] <;> rfl) | (simp [errW_none, errW_some, It.bne_nil]; done) | (simp [*, errW_none, errW_some] <;> rfl), by repeat (first | (with_reducible first | exact HB.out | apply below_alloc | apply pw_below_drewN | apply below_drew1) | exact HB.out)⟩
      · replace c6 := Bool.eq_false_iff.mpr c6
        subst c6
        have H1 : ((spec_TwPlain.f kj3 a0).bind fun t101 => (if t101 = true then ((spec_TwPlain.f kj3 a1).bind fun t102 => (if t102 = true then (laws_FnIsNumericNot.j1 kj3 a0 a1 a2 (decide ((wrap64 ((a0.size : Int) + (a1.size : Int))) > 200))) else (laws_FnIsNumericNot.j1 kj3 a0 a1 a2 true))) else (laws_FnIsNumericNot.j1 kj3 a0 a1 a2 true))) = some r := by rw [if_neg (show ¬ (false = true) by decide)] at H; exact H
        clear H
        have H := H1
        clear H1
        have HC7 := Aside0.mk H
        clear H
        go_upto_region 3 with (fail)
        go_cut [31] (fun v31 wc => ∃ (kq : Nat) (x31_6 : Bool), v31 = .bool x31_6 ∧ Aside0 (laws_FnIsNumericNot.j1 kq a0 a1 a2 x31_6 = some r) ∧ Aside0 (kq ≤ kj3) ∧ Aside0 (Below w.heap.size w wc))
        case first =>
          have H := HC7.out
          clear HC7
          replace H := Option.bind_eq_some_iff.mp H
          obtain ⟨t101, A80, H⟩ := H
          replace H : (if t101 = true then ((spec_TwPlain.f kj3 a1).bind fun t102 => (if t102 = true then (laws_FnIsNumericNot.j1 kj3 a0 a1 a2 (decide ((wrap64 ((a0.size : Int) + (a1.size : Int))) > 200))) else (laws_FnIsNumericNot.j1 kj3 a0 a1 a2 true))) else (laws_FnIsNumericNot.j1 kj3 a0 a1 a2 true)) = some r := H
          have A8 := Aside0.mk A80
          clear A80
          by_cases c9 : t101 = true
          · subst c9
            have H1 : ((spec_TwPlain.f kj3 a1).bind fun t102 => (if t102 = true then (laws_FnIsNumericNot.j1 kj3 a0 a1 a2 (decide ((wrap64 ((a0.size : Int) + (a1.size : Int))) > 200))) else (laws_FnIsNumericNot.j1 kj3 a0 a1 a2 true))) = some r := by rw [if_pos rfl] at H; exact H
            clear H
            have H := H1
            clear H1
            replace H := Option.bind_eq_some_iff.mp H
            obtain ⟨t102, A100, H⟩ := H
            replace H : (if t102 = true then (laws_FnIsNumericNot.j1 kj3 a0 a1 a2 (decide ((wrap64 ((a0.size : Int) + (a1.size : Int))) > 200))) else (laws_FnIsNumericNot.j1 kj3 a0 a1 a2 true)) = some r := H
            have A10 := Aside0.mk A100
            clear A100
            by_cases c11 : t102 = true
            · subst c11
              have H1 : (laws_FnIsNumericNot.j1 kj3 a0 a1 a2 (decide ((wrap64 ((a0.size : Int) + (a1.size : Int))) > 200))) = some r := by rw [if_pos rfl] at H; exact H
              clear H
              have H := H1
              clear H1
              have H' := Aside0.mk H
              clear H
              go_wp2_with (first | ((with_reducible refine gate_callee (f := 6) rfl ?_); refine goesL_ (some 17) rfl rfl Tryd.func6 (by kernel_rfl) rfl #[.string a0] rfl (by (try simp only [List.map_toArray, List.map_cons, List.map_nil]); first | done | rfl | (simp only [List.length_drop, List.length_take]; rfl)) ?_; (with_reducible refine (spec_TwPlain.calls kj3 a0 true _ A8.out).mono ?_); rintro e w' ⟨rfl, ⟨nd, rfl⟩⟩; refine ⟨_, rfl, ?_⟩) | (go_at_call 6; (with_reducible refine (spec_TwPlain.calls kj3 a1 true _ A10.out).mono ?_); rintro e w' ⟨rfl, ⟨nd, rfl⟩⟩))
              go_meet
              case rel => exact ⟨_, (decide ((wrap64 ((a0.size : Int) + (a1.size : Int))) > 200)), (by first | rfl | (simp; done) | (simp [*]; done)), H', ⟨by have := HJ3.out; first | omega | exact Nat.le_refl _⟩, ⟨by repeat (first | (with_reducible first | exact HB.out | apply below_alloc | apply pw_below_drewN | apply below_drew1) | exact HB.out)⟩⟩
            · replace c11 := Bool.eq_false_iff.mpr c11
              subst c11
              have H1 : (laws_FnIsNumericNot.j1 kj3 a0 a1 a2 true) = some r := by rw [if_neg (show ¬ (false = true) by decide)] at H; exact H
              clear H
              have H := H1
              clear H1
              have H' := Aside0.mk H
              clear H
              go_wp2_with (first | ((with_reducible refine gate_callee (f := 6) rfl ?_); refine goesL_ (some 17) rfl rfl Tryd.func6 (by kernel_rfl) rfl #[.string a0] rfl (by (try simp only [List.map_toArray, List.map_cons, List.map_nil]); first | done | rfl | (simp only [List.length_drop, List.length_take]; rfl)) ?_; (with_reducible refine (spec_TwPlain.calls kj3 a0 true _ A8.out).mono ?_); rintro e w' ⟨rfl, ⟨nd, rfl⟩⟩; refine ⟨_, rfl, ?_⟩) | (go_at_call 6; (with_reducible refine (spec_TwPlain.calls kj3 a1 false _ A10.out).mono ?_); rintro e w' ⟨rfl, ⟨nd, rfl⟩⟩))
              go_meet
              case rel => exact ⟨_, (true), (by first | rfl | (simp; done) | (simp [*]; done)), H', ⟨by have := HJ3.out; first | omega | exact Nat.le_refl _⟩, ⟨by repeat (first | (with_reducible first | exact HB.out | apply below_alloc | apply pw_below_drewN | apply below_drew1) | exact HB.out)⟩⟩
          · replace c9 := Bool.eq_false_iff.mpr c9
            subst c9
            have H1 : (laws_FnIsNumericNot.j1 kj3 a0 a1 a2 true) = some r := by rw [if_neg (show ¬ (false = true) by decide)] at H; exact H
            clear H
            have H := H1
            clear H1
            have H' := Aside0.mk H
            clear H
            go_wp2_with (first | ((with_reducible refine gate_callee (f := 6) rfl ?_); refine goesL_ (some 17) rfl rfl Tryd.func6 (by kernel_rfl) rfl #[.string a0] rfl (by (try simp only [List.map_toArray, List.map_cons, List.map_nil]); first | done | rfl | (simp only [List.length_drop, List.length_take]; rfl)) ?_; (with_reducible refine (spec_TwPlain.calls kj3 a0 false _ A8.out).mono ?_); rintro e w' ⟨rfl, ⟨nd, rfl⟩⟩; refine ⟨_, rfl, ?_⟩))
            go_meet
            case rel => exact ⟨_, (true), (by first | rfl | (simp; done) | (simp [*]; done)), H', ⟨by have := HJ3.out; first | omega | exact Nat.le_refl _⟩, ⟨by repeat (first | (with_reducible first | exact HB.out | apply below_alloc | apply pw_below_drewN | apply below_drew1) | exact HB.out)⟩⟩
        case rest =>
          clear HC7
          try clear c1
          try clear p2
          try clear c4
          try clear c5
          try clear c5b0
          try clear c5b1
          try clear c6
          try clear p6
          try clear c9
          try clear c11
          try clear p2
          obtain ⟨kq, x31_6, rfl, HA, HJ6, HB⟩ := hcut
          cases kq with
          | zero => exact absurd HA.out (by simp [laws_FnIsNumericNot.j1])
          | succ kj6 =>
            have H := HA.out
            clear HA
            simp only [laws_FnIsNumericNot.j1] at H
            by_cases c12 : x31_6 = true
            · subst c12
              have H1 : (some true) = some r := by rw [if_pos rfl] at H; exact H
              clear H
              have H := H1
              clear H1
              obtain rfl := Option.some.inj H
              go_wp2
              go_ret
              exact ⟨by first | rfl | (simp [errW_none, errW_some] <;> rfl) | (simp [errW_none, errW_some, It.bne_nil] <;> rfl) | (simp [errW_none, errW_some, It.bne_nil]; done) | (simp [*, errW_none, errW_some] <;> rfl), by repeat (first | (with_reducible first | exact HB.out | apply below_alloc | apply pw_below_drewN | apply below_drew1) | exact HB.out)⟩
            · replace c12 := Bool.eq_false_iff.mpr c12
              subst c12
              have H1 : (if 0 ≤ (Int.tmod (wrap64 (a2)) 33) then (if (Int.tmod (wrap64 (a2)) 33) ≤ (wrap64 ((Int.tmod (wrap64 (a2)) 33) + 1)) then (if (wrap64 ((Int.tmod (wrap64 (a2)) 33) + 1)) ≤ 33 then (if a0.size + ((⟨#[103, 106, 107, 108, 109, 111, 113, 114, 115, 117, 118, 119, 122, 71, 74, 75, 76, 77, 79, 81, 82, 83, 85, 86, 87, 90, 33, 63, 44, 59, 58, 40, 41]⟩ : ByteArray).extract ((Int.tmod (wrap64 (a2)) 33) : Int).toNat ((wrap64 ((Int.tmod (wrap64 (a2)) 33) + 1)) : Int).toNat).size ≤ 9223372036854775807 then (if (a0 ++ ((⟨#[103, 106, 107, 108, 109, 111, 113, 114, 115, 117, 118, 119, 122, 71, 74, 75, 76, 77, 79, 81, 82, 83, 85, 86, 87, 90, 33, 63, 44, 59, 58, 40, 41]⟩ : ByteArray).extract ((Int.tmod (wrap64 (a2)) 33) : Int).toNat ((wrap64 ((Int.tmod (wrap64 (a2)) 33) + 1)) : Int).toNat)).size + a1.size ≤ 9223372036854775807 then ((impl_TwIsNumeric.f ((a0 ++ ((⟨#[103, 106, 107, 108, 109, 111, 113, 114, 115, 117, 118, 119, 122, 71, 74, 75, 76, 77, 79, 81, 82, 83, 85, 86, 87, 90, 33, 63, 44, 59, 58, 40, 41]⟩ : ByteArray).extract ((Int.tmod (wrap64 (a2)) 33) : Int).toNat ((wrap64 ((Int.tmod (wrap64 (a2)) 33) + 1)) : Int).toNat)) ++ a1)).bind fun t103 => (if t103 = true then (some false) else (if 0 ≤ (Int.tmod a2 10) then (if (Int.tmod a2 10) ≤ (((Int.tmod a2 10) + 1) % 256) then (if (((Int.tmod a2 10) + 1) % 256) ≤ 10 then ((impl_TwIsNumeric.f ((⟨#[48, 49, 50, 51, 52, 53, 54, 55, 56, 57]⟩ : ByteArray).extract ((Int.tmod a2 10) : Int).toNat ((((Int.tmod a2 10) + 1) % 256) : Int).toNat)).bind fun t104 => (some t104)) else (none)) else (none)) else (none)))) else (none)) else (none)) else (none)) else (none)) else (none)) = some r := by rw [if_neg (show ¬ (false = true) by decide)] at H; exact H
              clear H
              have H := H1
              clear H1
              obtain ⟨ji13, hji13⟩ : ∃ j_ : Int, (Int.tmod (wrap64 (a2)) 33) = j_ := ⟨_, rfl⟩
              replace H : (if 0 ≤ (ji13) then (if (ji13) ≤ (wrap64 ((ji13) + 1)) then (if (wrap64 ((ji13) + 1)) ≤ 33 then (if a0.size + ((⟨#[103, 106, 107, 108, 109, 111, 113, 114, 115, 117, 118, 119, 122, 71, 74, 75, 76, 77, 79, 81, 82, 83, 85, 86, 87, 90, 33, 63, 44, 59, 58, 40, 41]⟩ : ByteArray).extract ((ji13) : Int).toNat ((wrap64 ((ji13) + 1)) : Int).toNat).size ≤ 9223372036854775807 then (if (a0 ++ ((⟨#[103, 106, 107, 108, 109, 111, 113, 114, 115, 117, 118, 119, 122, 71, 74, 75, 76, 77, 79, 81, 82, 83, 85, 86, 87, 90, 33, 63, 44, 59, 58, 40, 41]⟩ : ByteArray).extract ((ji13) : Int).toNat ((wrap64 ((ji13) + 1)) : Int).toNat)).size + a1.size ≤ 9223372036854775807 then ((impl_TwIsNumeric.f ((a0 ++ ((⟨#[103, 106, 107, 108, 109, 111, 113, 114, 115, 117, 118, 119, 122, 71, 74, 75, 76, 77, 79, 81, 82, 83, 85, 86, 87, 90, 33, 63, 44, 59, 58, 40, 41]⟩ : ByteArray).extract ((ji13) : Int).toNat ((wrap64 ((ji13) + 1)) : Int).toNat)) ++ a1)).bind fun t103 => (if t103 = true then (some false) else (if 0 ≤ (Int.tmod a2 10) then (if (Int.tmod a2 10) ≤ (((Int.tmod a2 10) + 1) % 256) then (if (((Int.tmod a2 10) + 1) % 256) ≤ 10 then ((impl_TwIsNumeric.f ((⟨#[48, 49, 50, 51, 52, 53, 54, 55, 56, 57]⟩ : ByteArray).extract ((Int.tmod a2 10) : Int).toNat ((((Int.tmod a2 10) + 1) % 256) : Int).toNat)).bind fun t104 => (some t104)) else (none)) else (none)) else (none)))) else (none)) else (none)) else (none)) else (none)) else (none)) = some r := by first | (rw [hji13] at H; exact H) | (simp only [hji13] at H ⊢; exact H)
              by_cases c14 : 0 ≤ (ji13)
              · rw [if_pos c14] at H
                have c14b0 := eq_true c14
                have c14b1 : decide (0 ≤ (ji13)) = true := decide_eq_true c14
                clear c14
                by_cases c15 : (ji13) ≤ (wrap64 ((ji13) + 1))
                · rw [if_pos c15] at H
                  have c15b0 := eq_true c15
                  have c15b1 : decide ((ji13) ≤ (wrap64 ((ji13) + 1))) = true := decide_eq_true c15
                  by_cases c16 : (wrap64 ((ji13) + 1)) ≤ 33
                  · rw [if_pos c16] at H
                    have c16b0 := eq_true c16
                    have c16b1 : decide ((wrap64 ((ji13) + 1)) ≤ 33) = true := decide_eq_true c16
                    by_cases c17 : a0.size + ((⟨#[103, 106, 107, 108, 109, 111, 113, 114, 115, 117, 118, 119, 122, 71, 74, 75, 76, 77, 79, 81, 82, 83, 85, 86, 87, 90, 33, 63, 44, 59, 58, 40, 41]⟩ : ByteArray).extract ((ji13) : Int).toNat ((wrap64 ((ji13) + 1)) : Int).toNat).size ≤ 9223372036854775807
                    · rw [if_pos c17] at H
                      have c17b4 : (9223372036854775807 < a0.size + ((wrap64 (ji13 + 1)).toNat - ji13.toNat)) = False := eq_false (Nat.not_lt.2 (by have z_ := c17; have e33 : (⟨#[103, 106, 107, 108, 109, 111, 113, 114, 115, 117, 118, 119, 122, 71, 74, 75, 76, 77, 79, 81, 82, 83, 85, 86, 87, 90, 33, 63, 44, 59, 58, 40, 41]⟩ : ByteArray).size = 33 := rfl; simp only [ByteArray.size_append, ByteArray.size_extract, e33] at z_; omega))
                      have c17b0 := eq_true c17
                      have c17b1 : decide (a0.size + ((⟨#[103, 106, 107, 108, 109, 111, 113, 114, 115, 117, 118, 119, 122, 71, 74, 75, 76, 77, 79, 81, 82, 83, 85, 86, 87, 90, 33, 63, 44, 59, 58, 40, 41]⟩ : ByteArray).extract ((ji13) : Int).toNat ((wrap64 ((ji13) + 1)) : Int).toNat).size ≤ 9223372036854775807) = true := decide_eq_true c17
                      try have c17b2 : (9223372036854775807 < a0.size + ((⟨#[103, 106, 107, 108, 109, 111, 113, 114, 115, 117, 118, 119, 122, 71, 74, 75, 76, 77, 79, 81, 82, 83, 85, 86, 87, 90, 33, 63, 44, 59, 58, 40, 41]⟩ : ByteArray).extract ((ji13) : Int).toNat ((wrap64 ((ji13) + 1)) : Int).toNat).size) = False := eq_false (Nat.not_lt.2 c17)
                      by_cases c18 : (a0 ++ ((⟨#[103, 106, 107, 108, 109, 111, 113, 114, 115, 117, 118, 119, 122, 71, 74, 75, 76, 77, 79, 81, 82, 83, 85, 86, 87, 90, 33, 63, 44, 59, 58, 40, 41]⟩ : ByteArray).extract ((ji13) : Int).toNat ((wrap64 ((ji13) + 1)) : Int).toNat)).size + a1.size ≤ 9223372036854775807
                      · rw [if_pos c18] at H
                        have c18b4 : (9223372036854775807 < a0.size + ((wrap64 (ji13 + 1)).toNat - ji13.toNat) + a1.size) = False := eq_false (Nat.not_lt.2 (by have z_ := c18; have e33 : (⟨#[103, 106, 107, 108, 109, 111, 113, 114, 115, 117, 118, 119, 122, 71, 74, 75, 76, 77, 79, 81, 82, 83, 85, 86, 87, 90, 33, 63, 44, 59, 58, 40, 41]⟩ : ByteArray).size = 33 := rfl; simp only [ByteArray.size_append, ByteArray.size_extract, e33] at z_; omega))
                        have c18b0 := eq_true c18
                        have c18b1 : decide ((a0 ++ ((⟨#[103, 106, 107, 108, 109, 111, 113, 114, 115, 117, 118, 119, 122, 71, 74, 75, 76, 77, 79, 81, 82, 83, 85, 86, 87, 90, 33, 63, 44, 59, 58, 40, 41]⟩ : ByteArray).extract ((ji13) : Int).toNat ((wrap64 ((ji13) + 1)) : Int).toNat)).size + a1.size ≤ 9223372036854775807) = true := decide_eq_true c18
                        try have c18b2 : (9223372036854775807 < (a0 ++ ((⟨#[103, 106, 107, 108, 109, 111, 113, 114, 115, 117, 118, 119, 122, 71, 74, 75, 76, 77, 79, 81, 82, 83, 85, 86, 87, 90, 33, 63, 44, 59, 58, 40, 41]⟩ : ByteArray).extract ((ji13) : Int).toNat ((wrap64 ((ji13) + 1)) : Int).toNat)).size + a1.size) = False := eq_false (Nat.not_lt.2 c18)
                        try have c18b3 : (9223372036854775807 < a0.size + ((⟨#[103, 106, 107, 108, 109, 111, 113, 114, 115, 117, 118, 119, 122, 71, 74, 75, 76, 77, 79, 81, 82, 83, 85, 86, 87, 90, 33, 63, 44, 59, 58, 40, 41]⟩ : ByteArray).extract ((ji13) : Int).toNat ((wrap64 ((ji13) + 1)) : Int).toNat).size + a1.size) = False := eq_false (Nat.not_lt.2 (by have z_ := c18; simp only [ByteArray.size_append] at z_; exact z_))
                        replace H := Option.bind_eq_some_iff.mp H
                        obtain ⟨t103, A190, H⟩ := H
                        replace H : (if t103 = true then (some false) else (if 0 ≤ (Int.tmod a2 10) then (if (Int.tmod a2 10) ≤ (((Int.tmod a2 10) + 1) % 256) then (if (((Int.tmod a2 10) + 1) % 256) ≤ 10 then ((impl_TwIsNumeric.f ((⟨#[48, 49, 50, 51, 52, 53, 54, 55, 56, 57]⟩ : ByteArray).extract ((Int.tmod a2 10) : Int).toNat ((((Int.tmod a2 10) + 1) % 256) : Int).toNat)).bind fun t104 => (some t104)) else (none)) else (none)) else (none))) = some r := H
                        have A19 := Aside0.mk A190
                        clear A190
                        by_cases c20 : t103 = true
                        · subst c20
                          have H1 : (some false) = some r := by rw [if_pos rfl] at H; exact H
                          clear H
                          have H := H1
                          clear H1
                          obtain rfl := Option.some.inj H
                          go_wp2_with (first | ((with_reducible refine gate_callee (f := 9) rfl ?_); refine goesL_ (some 43) rfl rfl Tryd.func9 (by kernel_rfl) rfl #[.string ((a0 ++ ((⟨#[103, 106, 107, 108, 109, 111, 113, 114, 115, 117, 118, 119, 122, 71, 74, 75, 76, 77, 79, 81, 82, 83, 85, 86, 87, 90, 33, 63, 44, 59, 58, 40, 41]⟩ : ByteArray).extract ((ji13) : Int).toNat ((wrap64 ((ji13) + 1)) : Int).toNat)) ++ a1)] rfl (by (try simp only [List.map_toArray, List.map_cons, List.map_nil]); first | done | (simp only [hji13]; rfl) | rfl | (simp only [List.length_drop, List.length_take]; rfl)) ?_; (with_reducible refine (impl_TwIsNumeric.calls ((a0 ++ ((⟨#[103, 106, 107, 108, 109, 111, 113, 114, 115, 117, 118, 119, 122, 71, 74, 75, 76, 77, 79, 81, 82, 83, 85, 86, 87, 90, 33, 63, 44, 59, 58, 40, 41]⟩ : ByteArray).extract ((ji13) : Int).toNat ((wrap64 ((ji13) + 1)) : Int).toNat)) ++ a1) true _ ?side1 A19.out).mono ?_); (case side1 => exact LaidW.on hT (by repeat (first | (with_reducible first | exact HB.out | apply below_alloc | apply pw_below_drewN | apply below_drew1) | exact HB.out))); rintro e w21 ⟨rfl, hb⟩; refine ⟨_, rfl, ?_⟩; have n0_ := Aside0.mk (below_step (by repeat (first | (with_reducible first | exact HB.out | apply below_alloc | apply pw_below_drewN | apply below_drew1) | exact HB.out)) hb); clear HB; have HB := n0_; clear n0_; (try clear hb); (try clear hb2); (try clear hk); (try clear hi)))
                          go_ret
                          exact ⟨by first | rfl | (simp [errW_none, errW_some] <;> rfl) | (simp only [← hji13]; first | rfl | (simp [errW_none, errW_some] <;> rfl)) | (simp [errW_none, errW_some, It.bne_nil] <;> rfl) | (simp [errW_none, errW_some, It.bne_nil]; done) | (simp [*, errW_none, errW_some] <;> rfl), by repeat (first | (with_reducible first | exact HB.out | apply below_alloc | apply pw_below_drewN | apply below_drew1) | exact HB.out)⟩
                        · replace c20 := Bool.eq_false_iff.mpr c20
                          subst c20
                          have H1 : (if 0 ≤ (Int.tmod a2 10) then (if (Int.tmod a2 10) ≤ (((Int.tmod a2 10) + 1) % 256) then (if (((Int.tmod a2 10) + 1) % 256) ≤ 10 then ((impl_TwIsNumeric.f ((⟨#[48, 49, 50, 51, 52, 53, 54, 55, 56, 57]⟩ : ByteArray).extract ((Int.tmod a2 10) : Int).toNat ((((Int.tmod a2 10) + 1) % 256) : Int).toNat)).bind fun t104 => (some t104)) else (none)) else (none)) else (none)) = some r := by rw [if_neg (show ¬ (false = true) by decide)] at H; exact H
                          clear H
                          have H := H1
                          clear H1
                          obtain ⟨ji22, hji22⟩ : ∃ j_ : Int, (Int.tmod a2 10) = j_ := ⟨_, rfl⟩
                          replace H : (if 0 ≤ (ji22) then (if (ji22) ≤ (((ji22) + 1) % 256) then (if (((ji22) + 1) % 256) ≤ 10 then ((impl_TwIsNumeric.f ((⟨#[48, 49, 50, 51, 52, 53, 54, 55, 56, 57]⟩ : ByteArray).extract ((ji22) : Int).toNat ((((ji22) + 1) % 256) : Int).toNat)).bind fun t104 => (some t104)) else (none)) else (none)) else (none)) = some r := by first | (rw [hji22] at H; exact H) | (simp only [hji22] at H ⊢; exact H)
                          (try rw [hji22] at A19)
                          by_cases c23 : 0 ≤ (ji22)
                          · rw [if_pos c23] at H
                            have c23b0 := eq_true c23
                            have c23b1 : decide (0 ≤ (ji22)) = true := decide_eq_true c23
                            clear c23
                            by_cases c24 : (ji22) ≤ (((ji22) + 1) % 256)
                            · rw [if_pos c24] at H
                              have c24b0 := eq_true c24
                              have c24b1 : decide ((ji22) ≤ (((ji22) + 1) % 256)) = true := decide_eq_true c24
                              by_cases c25 : (((ji22) + 1) % 256) ≤ 10
                              · rw [if_pos c25] at H
                                have c25b0 := eq_true c25
                                have c25b1 : decide ((((ji22) + 1) % 256) ≤ 10) = true := decide_eq_true c25
                                replace H := Option.bind_eq_some_iff.mp H
                                obtain ⟨t104, A260, H⟩ := H
                                replace H : (some t104) = some r := H
                                have A26 := Aside0.mk A260
                                clear A260
                                obtain rfl := Option.some.inj H
                                go_wp2_with (first | ((with_reducible refine gate_callee (f := 9) rfl ?_); refine goesL_ (some 43) rfl rfl Tryd.func9 (by kernel_rfl) rfl #[.string ((a0 ++ ((⟨#[103, 106, 107, 108, 109, 111, 113, 114, 115, 117, 118, 119, 122, 71, 74, 75, 76, 77, 79, 81, 82, 83, 85, 86, 87, 90, 33, 63, 44, 59, 58, 40, 41]⟩ : ByteArray).extract ((ji13) : Int).toNat ((wrap64 ((ji13) + 1)) : Int).toNat)) ++ a1)] rfl (by (try simp only [List.map_toArray, List.map_cons, List.map_nil]); first | done | (simp only [hji13]; rfl) | rfl | (simp only [List.length_drop, List.length_take]; rfl)) ?_; (with_reducible refine (impl_TwIsNumeric.calls ((a0 ++ ((⟨#[103, 106, 107, 108, 109, 111, 113, 114, 115, 117, 118, 119, 122, 71, 74, 75, 76, 77, 79, 81, 82, 83, 85, 86, 87, 90, 33, 63, 44, 59, 58, 40, 41]⟩ : ByteArray).extract ((ji13) : Int).toNat ((wrap64 ((ji13) + 1)) : Int).toNat)) ++ a1) false _ ?side1 A19.out).mono ?_); (case side1 => exact LaidW.on hT (by repeat (first | (with_reducible first | exact HB.out | apply below_alloc | apply pw_below_drewN | apply below_drew1) | exact HB.out))); rintro e w27 ⟨rfl, hb⟩; refine ⟨_, rfl, ?_⟩; have n0_ := Aside0.mk (below_step (by repeat (first | (with_reducible first | exact HB.out | apply below_alloc | apply pw_below_drewN | apply below_drew1) | exact HB.out)) hb); clear HB; have HB := n0_; clear n0_; (try clear hb); (try clear hb2); (try clear hk); (try clear hi)) | (go_at_call 9; (with_reducible refine (impl_TwIsNumeric.calls ((⟨#[48, 49, 50, 51, 52, 53, 54, 55, 56, 57]⟩ : ByteArray).extract ((ji22) : Int).toNat ((((ji22) + 1) % 256) : Int).toNat) t104 _ ?side1 A26.out).mono ?_); (case side1 => exact LaidW.on hT (by repeat (first | (with_reducible first | exact HB.out | apply below_alloc | apply pw_below_drewN | apply below_drew1) | exact HB.out))); rintro e w28 ⟨rfl, hb⟩; have n0_ := Aside0.mk (below_step (by repeat (first | (with_reducible first | exact HB.out | apply below_alloc | apply pw_below_drewN | apply below_drew1) | exact HB.out)) hb); clear HB; have HB := n0_; clear n0_; (try clear hb); (try clear hb2); (try clear hk); (try clear hi)))
                                go_ret
                                exact ⟨by first | rfl | (simp [errW_none, errW_some] <;> rfl) | (simp only [← hji13, ← hji22]; first | rfl | (simp [errW_none, errW_some] <;> rfl)) | (simp [errW_none, errW_some, It.bne_nil] <;> rfl) | (simp [errW_none, errW_some, It.bne_nil]; done) | (simp [*, errW_none, errW_some] <;> rfl), by repeat (first | (with_reducible first | exact HB.out | apply below_alloc | apply pw_below_drewN | apply below_drew1) | exact HB.out)⟩
                              · rw [if_neg c25] at H
                                exact absurd H (by simp)
                            · rw [if_neg c24] at H
                              exact absurd H (by simp)
                          · rw [if_neg c23] at H
                            exact absurd H (by simp)
                      · rw [if_neg c18] at H
                        exact absurd H (by simp)
                    · rw [if_neg c17] at H
                      exact absurd H (by simp)
                  · rw [if_neg c16] at H
                    exact absurd H (by simp)
                · rw [if_neg c15] at H
                  exact absurd H (by simp)
              · rw [if_neg c14] at H
                exact absurd H (by simp)

def laws_FnIsNumericNot.Pure : Prop := ∀ (a0 : ByteArray) (a1 : ByteArray) (a2 : Int), a0.size ≤ 140737488351232 → a1.size ≤ 140737488351232 → (Lit.int .u8 a2).wf = true → ∃ k, laws_FnIsNumericNot.f k a0 a1 a2 = some true

end Go.Proofs.YtmadlpclnlbpgaaDoor.PFnIsNumericNot
