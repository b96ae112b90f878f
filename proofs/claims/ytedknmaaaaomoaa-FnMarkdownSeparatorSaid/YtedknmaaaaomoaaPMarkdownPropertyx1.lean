-- Written by hprint.py, a program of this session
import Derived.Test.YtedknmaaaaomoaaPMarkdownPropertyx0
namespace Go.Proofs.Ytedknmaaaaomoaa.PMarkdownProperty
open Go.RowKit Go.Proofs.Ytedknmaaaaomoaa.Hand Go.Proofs.YtedknmaaaaomoaaW.PrintWords Go.Proofs.YtedknmaaaaomoaaW.PrintLast Go.Proofs.YtedknmaaaaomoaaW.PrintMore
attribute [local go_sem] max2_int min2_int max_two min_two max_three min_three max_four min_four   -- for this text's walks alone
set_option linter.unusedVariables false
set_option linter.unusedSimpArgs false

-- BY HAND: function 21 (strings_Repeat)

/-! ### text_Align_MarkdownProperty: function 16 -/
mutual
def text_Align_MarkdownProperty.j0 : Nat → Int → List Int → Int → Bool → Option (ByteArray)
  | 0, _, _, _, _ => none
  | k + 1, x0, x1, x5, x16 => if x16 = true then (if 0 < (x1.length : Int) then (text_Align_MarkdownProperty.j1 k x0 (rd x1 0)) else (none)) else (text_Align_MarkdownProperty.j1 k x0 x5)
def text_Align_MarkdownProperty.j1 : Nat → Int → Int → Option (ByteArray)
  | 0, _, _ => none
  | k + 1, x0, x5 => (strings_Repeat.f (⟨#[45]⟩ : ByteArray) x5).bind fun t103 => (if x0 = 1 then (if 1 + t103.size ≤ 9223372036854775807 then (if ((⟨#[58]⟩ : ByteArray) ++ t103).size + 1 ≤ 9223372036854775807 then (some (((⟨#[58]⟩ : ByteArray) ++ t103) ++ (⟨#[32]⟩ : ByteArray))) else (none)) else (none)) else (if x0 = 2 then (if 1 + t103.size ≤ 9223372036854775807 then (if ((⟨#[58]⟩ : ByteArray) ++ t103).size + 1 ≤ 9223372036854775807 then (some (((⟨#[58]⟩ : ByteArray) ++ t103) ++ (⟨#[58]⟩ : ByteArray))) else (none)) else (none)) else (if x0 = 4 then (if 1 + t103.size ≤ 9223372036854775807 then (if ((⟨#[32]⟩ : ByteArray) ++ t103).size + 1 ≤ 9223372036854775807 then (some (((⟨#[32]⟩ : ByteArray) ++ t103) ++ (⟨#[58]⟩ : ByteArray))) else (none)) else (none)) else (if 1 + t103.size ≤ 9223372036854775807 then (if ((⟨#[32]⟩ : ByteArray) ++ t103).size + 1 ≤ 9223372036854775807 then (some (((⟨#[32]⟩ : ByteArray) ++ t103) ++ (⟨#[32]⟩ : ByteArray))) else (none)) else (none)))))
end
def text_Align_MarkdownProperty.f (k : Nat) (a0 : Int) (l1 : List Int) : Option (ByteArray) := if (l1.length : Int) > 0 then (if 0 < (l1.length : Int) then (text_Align_MarkdownProperty.j0 k a0 l1 3 (decide ((rd l1 0) > 3))) else (none)) else (text_Align_MarkdownProperty.j0 k a0 l1 3 false)
theorem text_Align_MarkdownProperty.mono_l : ∀ k, (∀ y0 y1 y2 y3, LeO (text_Align_MarkdownProperty.j0 k y0 y1 y2 y3) (text_Align_MarkdownProperty.j0 (k + 1) y0 y1 y2 y3)) ∧ (∀ y0 y1, LeO (text_Align_MarkdownProperty.j1 k y0 y1) (text_Align_MarkdownProperty.j1 (k + 1) y0 y1))
  | 0 => ⟨fun _ _ _ _ r h => by simp [text_Align_MarkdownProperty.j0] at h, fun _ _ r h => by simp [text_Align_MarkdownProperty.j1] at h⟩
  | k + 1 => by
    obtain ⟨ih0, ih1⟩ := text_Align_MarkdownProperty.mono_l k
    refine ⟨?_, ?_⟩
    · intro y0 y1 y2 y3
      unfold text_Align_MarkdownProperty.j0
      repeat' first
      | (with_reducible exact ih0 _ _ _ _)
      | (with_reducible exact ih1 _ _)
      | (with_reducible exact LeO.refl _)
      | (with_reducible exact LeO.none _)
      | (with_reducible refine LeO.ite ?_ ?_)
      | (with_reducible refine LeO.bind ?_ (fun _ => ?_))
      | exact ih0 _ _ _ _
      | exact ih1 _ _
      | exact LeO.none _
      | refine LeO.ite ?_ ?_
      | refine LeO.bind ?_ (fun _ => ?_)
    · intro y0 y1
      unfold text_Align_MarkdownProperty.j1
      repeat' first
      | (with_reducible exact ih0 _ _ _ _)
      | (with_reducible exact ih1 _ _)
      | (with_reducible exact LeO.refl _)
      | (with_reducible exact LeO.none _)
      | (with_reducible refine LeO.ite ?_ ?_)
      | (with_reducible refine LeO.bind ?_ (fun _ => ?_))
      | exact ih0 _ _ _ _
      | exact ih1 _ _
      | exact LeO.none _
      | refine LeO.ite ?_ ?_
      | refine LeO.bind ?_ (fun _ => ?_)
theorem text_Align_MarkdownProperty.mono : ∀ a0 a1 k, LeO (text_Align_MarkdownProperty.f k a0 a1) (text_Align_MarkdownProperty.f (k + 1) a0 a1) := by
  intro a0 a1 k
  obtain ⟨ih0, ih1⟩ := text_Align_MarkdownProperty.mono_l k
  unfold text_Align_MarkdownProperty.f
  repeat' first
      | (with_reducible exact ih0 _ _ _ _)
      | (with_reducible exact ih1 _ _)
      | (with_reducible exact LeO.refl _)
      | (with_reducible exact LeO.none _)
      | (with_reducible refine LeO.ite ?_ ?_)
      | (with_reducible refine LeO.bind ?_ (fun _ => ?_))
      | exact ih0 _ _ _ _
      | exact ih1 _ _
      | exact LeO.none _
      | refine LeO.ite ?_ ?_
      | refine LeO.bind ?_ (fun _ => ?_)
set_option maxHeartbeats 8000000 in
set_option maxRecDepth 100000 in
theorem text_Align_MarkdownProperty.calls (k : Nat) (a0 : Int) (A1 : Option Addr) (c1 : Nat) (l1 : List Int) (r : ByteArray) (w : World) (hr1 : Kd.C (Kd.int .i64) w A1 l1.length l1) (hc1 : l1.length ≤ c1) (h : text_Align_MarkdownProperty.f k a0 l1 = some r) :
    Calls Try.prog 16 #[.int .i64 a0, .slice A1 l1.length c1] w fun e w' => e = .returned (.string r) ∧ Below w.heap.size w w' := by
  have HR1 := Aside0.mk hr1
  have HC1 := Aside0.mk hc1
  clear hr1 hc1
  have HB := Aside0.mk (Below.refl w.heap.size w)
  have H : (if (l1.length : Int) > 0 then (if 0 < (l1.length : Int) then (text_Align_MarkdownProperty.j0 k a0 l1 3 (decide ((rd l1 0) > 3))) else (none)) else (text_Align_MarkdownProperty.j0 k a0 l1 3 false)) = some r := h
  clear h
  have HC3 := Aside0.mk H
  clear H
  go_enter Try.func16, Try.ntmps16
  go_upto_region 2 with (fail)
  go_cut [16] (fun v16 wc => ∃ (kq : Nat) (x16_2 : Bool), v16 = .bool x16_2 ∧ Aside0 (text_Align_MarkdownProperty.j0 kq a0 l1 3 x16_2 = some r) ∧ Aside0 (kq ≤ k) ∧ Aside0 (Below w.heap.size w wc))
  case first =>
    have H := HC3.out
    clear HC3
    by_cases c4 : (l1.length : Int) > 0
    · rw [if_pos c4] at H
      have c4b0 : decide (0 < (l1.length : Int)) = true := decide_eq_true c4
      have c4b1 : decide (0 < l1.length) = true := decide_eq_true (by omega)
      clear c4
      (first | rw [c4b0] | (simp only [i64_w, i32_w]; rw [c4b0]) | skip)
      by_cases c5 : 0 < (l1.length : Int)
      · rw [if_pos c5] at H
        have c5b0 : decide (0 < (l1.length : Int)) = true := decide_eq_true c5
        have c5b1 : decide (0 < l1.length) = true := decide_eq_true (by omega)
        clear c5
        have H' := Aside0.mk H
        clear H
        have p101 : 0 ≤ (0 : Int) := (by omega)
        have q101 : 0 < (l1.length : Int) := of_decide_eq_true (by first | (with_reducible assumption) | assumption)
        obtain ⟨ad101, e101, hx101_0⟩ := Kd.at_int HR1.out 0 p101 q101
        cases e101
        have qi101 : (0 < l1.length) = True := eq_true (by omega)
        (try rw [show ((0 : Int)).toNat = 0 from rfl] at hx101_0)
        (try rw [Addr.add_zero'] at hx101_0)
        replace hx101_0 := (HB.out.cell (World.block_lt_of_cell? w _ hx101_0)).trans hx101_0
        (try simp only [Go.IntWalk.toNatUp] at hx101_0)
        replace p101 := eq_true p101
        replace q101 := eq_true q101
        go_wp2
        go_meet
        case rel => exact ⟨_, (decide ((rd l1 0) > 3)), (by first | rfl | (simp; done) | (simp [*]; done)), H', ⟨by first | omega | exact Nat.le_refl _⟩, ⟨by repeat (first | (with_reducible first | exact HB.out | apply below_alloc | apply pw_below_drewN | apply below_drew1) | exact HB.out)⟩⟩
      · rw [if_neg c5] at H
        exact absurd H (by simp)
    · rw [if_neg c4] at H
      have c4b0 : decide (0 < (l1.length : Int)) = false := decide_eq_false c4
      have c4b1 : decide (0 < l1.length) = false := decide_eq_false (by omega)
      clear c4
      (first | rw [c4b0] | (simp only [i64_w, i32_w]; rw [c4b0]) | skip)
      have H' := Aside0.mk H
      clear H
      go_wp2
      go_meet
      case rel => exact ⟨_, (false), (by first | rfl | (simp; done) | (simp [*]; done)), H', ⟨by first | omega | exact Nat.le_refl _⟩, ⟨by repeat (first | (with_reducible first | exact HB.out | apply below_alloc | apply pw_below_drewN | apply below_drew1) | exact HB.out)⟩⟩
  case rest =>
    clear HC3
    try clear c1
    try clear p1
    try clear q1
    try clear hx1
    try clear qi1
    try clear p2
    try clear c4
    try clear c4b0
    try clear c4b1
    try clear c5
    try clear c5b0
    try clear c5b1
    try clear hx101_0
    try clear p101
    try clear q101
    obtain ⟨kq, x16_2, rfl, HA, HJ2, HB⟩ := hcut
    cases kq with
    | zero => exact absurd HA.out (by simp [text_Align_MarkdownProperty.j0])
    | succ kj2 =>
      have H := HA.out
      clear HA
      simp only [text_Align_MarkdownProperty.j0] at H
      have HC6 := Aside0.mk H
      clear H
      go_upto_if 16 with (fail)
      go_cut [5] (fun v5 wc => ∃ (kq : Nat) (x5_5 : Int), v5 = .int .i64 x5_5 ∧ Aside0 (text_Align_MarkdownProperty.j1 kq a0 x5_5 = some r) ∧ Aside0 (kq ≤ kj2) ∧ Aside0 (Below w.heap.size w wc))
      case first =>
        have H := HC6.out
        clear HC6
        by_cases c7 : x16_2 = true
        · subst c7
          have H1 : (if 0 < (l1.length : Int) then (text_Align_MarkdownProperty.j1 kj2 a0 (rd l1 0)) else (none)) = some r := by rw [if_pos rfl] at H; exact H
          clear H
          have H := H1
          clear H1
          by_cases c8 : 0 < (l1.length : Int)
          · rw [if_pos c8] at H
            have c8b0 : decide (0 < (l1.length : Int)) = true := decide_eq_true c8
            have c8b1 : decide (0 < l1.length) = true := decide_eq_true (by omega)
            clear c8
            (first | rw [c8b0] | (simp only [i64_w, i32_w]; rw [c8b0]) | skip)
            have H' := Aside0.mk H
            clear H
            have p102 : 0 ≤ (0 : Int) := (by omega)
            have q102 : 0 < (l1.length : Int) := of_decide_eq_true (by first | (with_reducible assumption) | assumption)
            obtain ⟨ad102, e102, hx102_0⟩ := Kd.at_int HR1.out 0 p102 q102
            cases e102
            have qi102 : (0 < l1.length) = True := eq_true (by omega)
            (try rw [show ((0 : Int)).toNat = 0 from rfl] at hx102_0)
            (try rw [Addr.add_zero'] at hx102_0)
            replace hx102_0 := (HB.out.cell (World.block_lt_of_cell? w _ hx102_0)).trans hx102_0
            (try simp only [Go.IntWalk.toNatUp] at hx102_0)
            replace p102 := eq_true p102
            replace q102 := eq_true q102
            go_wp2
            go_meet
            case rel => exact ⟨_, (rd l1 0), (by first | rfl | (simp; done) | (simp [*]; done)), H', ⟨by have := HJ2.out; first | omega | exact Nat.le_refl _⟩, ⟨by repeat (first | (with_reducible first | exact HB.out | apply below_alloc | apply pw_below_drewN | apply below_drew1) | exact HB.out)⟩⟩
          · rw [if_neg c8] at H
            exact absurd H (by simp)
        · replace c7 := Bool.eq_false_iff.mpr c7
          subst c7
          have H1 : (text_Align_MarkdownProperty.j1 kj2 a0 3) = some r := by rw [if_neg (show ¬ (false = true) by decide)] at H; exact H
          clear H
          have H := H1
          clear H1
          have H' := Aside0.mk H
          clear H
          go_wp2
          go_meet
          case rel => exact ⟨_, (3), (by first | rfl | (simp; done) | (simp [*]; done)), H', ⟨by have := HJ2.out; first | omega | exact Nat.le_refl _⟩, ⟨by repeat (first | (with_reducible first | exact HB.out | apply below_alloc | apply pw_below_drewN | apply below_drew1) | exact HB.out)⟩⟩
      case rest =>
        clear HC6
        try clear c1
        try clear p1
        try clear q1
        try clear hx1
        try clear qi1
        try clear p2
        try clear c4
        try clear c4b0
        try clear c4b1
        try clear c5
        try clear c5b0
        try clear c5b1
        try clear c7
        try clear c8
        try clear c8b0
        try clear c8b1
        try clear hx101_0
        try clear hx102_0
        try clear p1
        try clear p101
        try clear p102
        try clear p2
        try clear q1
        try clear q101
        try clear q102
        obtain ⟨kq, x5_5, rfl, HA, HJ5, HB⟩ := hcut
        cases kq with
        | zero => exact absurd HA.out (by simp [text_Align_MarkdownProperty.j1])
        | succ kj5 =>
          have H := HA.out
          clear HA
          simp only [text_Align_MarkdownProperty.j1] at H
          replace H := Option.bind_eq_some_iff.mp H
          obtain ⟨t103, A90, H⟩ := H
          replace H : (if a0 = 1 then (if 1 + t103.size ≤ 9223372036854775807 then (if ((⟨#[58]⟩ : ByteArray) ++ t103).size + 1 ≤ 9223372036854775807 then (some (((⟨#[58]⟩ : ByteArray) ++ t103) ++ (⟨#[32]⟩ : ByteArray))) else (none)) else (none)) else (if a0 = 2 then (if 1 + t103.size ≤ 9223372036854775807 then (if ((⟨#[58]⟩ : ByteArray) ++ t103).size + 1 ≤ 9223372036854775807 then (some (((⟨#[58]⟩ : ByteArray) ++ t103) ++ (⟨#[58]⟩ : ByteArray))) else (none)) else (none)) else (if a0 = 4 then (if 1 + t103.size ≤ 9223372036854775807 then (if ((⟨#[32]⟩ : ByteArray) ++ t103).size + 1 ≤ 9223372036854775807 then (some (((⟨#[32]⟩ : ByteArray) ++ t103) ++ (⟨#[58]⟩ : ByteArray))) else (none)) else (none)) else (if 1 + t103.size ≤ 9223372036854775807 then (if ((⟨#[32]⟩ : ByteArray) ++ t103).size + 1 ≤ 9223372036854775807 then (some (((⟨#[32]⟩ : ByteArray) ++ t103) ++ (⟨#[32]⟩ : ByteArray))) else (none)) else (none))))) = some r := H
          have A9 := Aside0.mk A90
          clear A90
          by_cases c10 : a0 = 1
          · rw [if_pos c10] at H
            have c10b0 : (a0 == 1) = true := beq_iff_eq.mpr c10
            have c10b1 : (a0 != 1) = false := bne_eq_false_iff_eq.mpr c10
            clear c10
            by_cases c11 : 1 + t103.size ≤ 9223372036854775807
            · rw [if_pos c11] at H
              have c11b0 := eq_true c11
              have c11b1 : decide (1 + t103.size ≤ 9223372036854775807) = true := decide_eq_true c11
              try have c11b2 : (9223372036854775807 < 1 + t103.size) = False := eq_false (Nat.not_lt.2 c11)
              by_cases c12 : ((⟨#[58]⟩ : ByteArray) ++ t103).size + 1 ≤ 9223372036854775807
              · rw [if_pos c12] at H
                have c12b0 := eq_true c12
                have c12b1 : decide (((⟨#[58]⟩ : ByteArray) ++ t103).size + 1 ≤ 9223372036854775807) = true := decide_eq_true c12
                try have c12b2 : (9223372036854775807 < ((⟨#[58]⟩ : ByteArray) ++ t103).size + 1) = False := eq_false (Nat.not_lt.2 c12)
                try have c12b3 : (9223372036854775807 < 1 + t103.size + 1) = False := eq_false (Nat.not_lt.2 (by have z_ := c12; simp only [ByteArray.size_append] at z_; exact z_))
                obtain rfl := Option.some.inj H
                go_wp2_with (first | ((with_reducible refine gate_callee (f := 21) rfl ?_); refine goesL_ (some 21) rfl rfl Try.func21 (by kernel_rfl) rfl #[.string (⟨#[45]⟩ : ByteArray), .int .i64 x5_5] rfl (by (try simp only [List.map_toArray, List.map_cons, List.map_nil]); first | done | rfl | (simp only [List.length_drop, List.length_take]; rfl)) ?_; (with_reducible refine (strings_Repeat.calls (⟨#[45]⟩ : ByteArray) x5_5 t103 _ A9.out).mono ?_); rintro e w13 ⟨rfl, hb⟩; refine ⟨_, rfl, ?_⟩; have n0_ := Aside0.mk (below_step (by repeat (first | (with_reducible first | exact HB.out | apply below_alloc | apply pw_below_drewN | apply below_drew1) | exact HB.out)) hb); clear HB; have HB := n0_; clear n0_; (try clear hb); (try clear hb2); (try clear hk); (try clear hi)))
                go_ret
                exact ⟨by first | rfl | (simp [errW_none, errW_some] <;> rfl) | (simp [*, errW_none, errW_some] <;> rfl), by repeat (first | (with_reducible first | exact HB.out | apply below_alloc | apply pw_below_drewN | apply below_drew1) | exact HB.out)⟩
              · rw [if_neg c12] at H
                exact absurd H (by simp)
            · rw [if_neg c11] at H
              exact absurd H (by simp)
          · rw [if_neg c10] at H
            have c10b0 : (a0 == 1) = false := beq_eq_false_iff_ne.mpr c10
            have c10b1 : (a0 != 1) = true := bne_iff_ne.mpr c10
            by_cases c14 : a0 = 2
            · rw [if_pos c14] at H
              have c14b0 : (a0 == 2) = true := beq_iff_eq.mpr c14
              have c14b1 : (a0 != 2) = false := bne_eq_false_iff_eq.mpr c14
              clear c14
              by_cases c15 : 1 + t103.size ≤ 9223372036854775807
              · rw [if_pos c15] at H
                have c15b0 := eq_true c15
                have c15b1 : decide (1 + t103.size ≤ 9223372036854775807) = true := decide_eq_true c15
                try have c15b2 : (9223372036854775807 < 1 + t103.size) = False := eq_false (Nat.not_lt.2 c15)
                by_cases c16 : ((⟨#[58]⟩ : ByteArray) ++ t103).size + 1 ≤ 9223372036854775807
                · rw [if_pos c16] at H
                  have c16b0 := eq_true c16
                  have c16b1 : decide (((⟨#[58]⟩ : ByteArray) ++ t103).size + 1 ≤ 9223372036854775807) = true := decide_eq_true c16
                  try have c16b2 : (9223372036854775807 < ((⟨#[58]⟩ : ByteArray) ++ t103).size + 1) = False := eq_false (Nat.not_lt.2 c16)
                  try have c16b3 : (9223372036854775807 < 1 + t103.size + 1) = False := eq_false (Nat.not_lt.2 (by have z_ := c16; simp only [ByteArray.size_append] at z_; exact z_))
                  obtain rfl := Option.some.inj H
                  go_wp2_with (first | ((with_reducible refine gate_callee (f := 21) rfl ?_); refine goesL_ (some 21) rfl rfl Try.func21 (by kernel_rfl) rfl #[.string (⟨#[45]⟩ : ByteArray), .int .i64 x5_5] rfl (by (try simp only [List.map_toArray, List.map_cons, List.map_nil]); first | done | rfl | (simp only [List.length_drop, List.length_take]; rfl)) ?_; (with_reducible refine (strings_Repeat.calls (⟨#[45]⟩ : ByteArray) x5_5 t103 _ A9.out).mono ?_); rintro e w17 ⟨rfl, hb⟩; refine ⟨_, rfl, ?_⟩; have n0_ := Aside0.mk (below_step (by repeat (first | (with_reducible first | exact HB.out | apply below_alloc | apply pw_below_drewN | apply below_drew1) | exact HB.out)) hb); clear HB; have HB := n0_; clear n0_; (try clear hb); (try clear hb2); (try clear hk); (try clear hi)))
                  go_ret
                  exact ⟨by first | rfl | (simp [errW_none, errW_some] <;> rfl) | (simp [*, errW_none, errW_some] <;> rfl), by repeat (first | (with_reducible first | exact HB.out | apply below_alloc | apply pw_below_drewN | apply below_drew1) | exact HB.out)⟩
                · rw [if_neg c16] at H
                  exact absurd H (by simp)
              · rw [if_neg c15] at H
                exact absurd H (by simp)
            · rw [if_neg c14] at H
              have c14b0 : (a0 == 2) = false := beq_eq_false_iff_ne.mpr c14
              have c14b1 : (a0 != 2) = true := bne_iff_ne.mpr c14
              by_cases c18 : a0 = 4
              · rw [if_pos c18] at H
                have c18b0 : (a0 == 4) = true := beq_iff_eq.mpr c18
                have c18b1 : (a0 != 4) = false := bne_eq_false_iff_eq.mpr c18
                clear c18
                by_cases c19 : 1 + t103.size ≤ 9223372036854775807
                · rw [if_pos c19] at H
                  have c19b0 := eq_true c19
                  have c19b1 : decide (1 + t103.size ≤ 9223372036854775807) = true := decide_eq_true c19
                  try have c19b2 : (9223372036854775807 < 1 + t103.size) = False := eq_false (Nat.not_lt.2 c19)
                  by_cases c20 : ((⟨#[32]⟩ : ByteArray) ++ t103).size + 1 ≤ 9223372036854775807
                  · rw [if_pos c20] at H
                    have c20b0 := eq_true c20
                    have c20b1 : decide (((⟨#[32]⟩ : ByteArray) ++ t103).size + 1 ≤ 9223372036854775807) = true := decide_eq_true c20
                    try have c20b2 : (9223372036854775807 < ((⟨#[32]⟩ : ByteArray) ++ t103).size + 1) = False := eq_false (Nat.not_lt.2 c20)
                    try have c20b3 : (9223372036854775807 < 1 + t103.size + 1) = False := eq_false (Nat.not_lt.2 (by have z_ := c20; simp only [ByteArray.size_append] at z_; exact z_))
                    obtain rfl := Option.some.inj H
                    go_wp2_with (first | ((with_reducible refine gate_callee (f := 21) rfl ?_); refine goesL_ (some 21) rfl rfl Try.func21 (by kernel_rfl) rfl #[.string (⟨#[45]⟩ : ByteArray), .int .i64 x5_5] rfl (by (try simp only [List.map_toArray, List.map_cons, List.map_nil]); first | done | rfl | (simp only [List.length_drop, List.length_take]; rfl)) ?_; (with_reducible refine (strings_Repeat.calls (⟨#[45]⟩ : ByteArray) x5_5 t103 _ A9.out).mono ?_); rintro e w21 ⟨rfl, hb⟩; refine ⟨_, rfl, ?_⟩; have n0_ := Aside0.mk (below_step (by repeat (first | (with_reducible first | exact HB.out | apply below_alloc | apply pw_below_drewN | apply below_drew1) | exact HB.out)) hb); clear HB; have HB := n0_; clear n0_; (try clear hb); (try clear hb2); (try clear hk); (try clear hi)))
                    go_ret
                    exact ⟨by first | rfl | (simp [errW_none, errW_some] <;> rfl) | (simp [*, errW_none, errW_some] <;> rfl), by repeat (first | (with_reducible first | exact HB.out | apply below_alloc | apply pw_below_drewN | apply below_drew1) | exact HB.out)⟩
                  · rw [if_neg c20] at H
                    exact absurd H (by simp)
                · rw [if_neg c19] at H
                  exact absurd H (by simp)
              · rw [if_neg c18] at H
                have c18b0 : (a0 == 4) = false := beq_eq_false_iff_ne.mpr c18
                have c18b1 : (a0 != 4) = true := bne_iff_ne.mpr c18
                by_cases c22 : 1 + t103.size ≤ 9223372036854775807
                · rw [if_pos c22] at H
                  have c22b0 := eq_true c22
                  have c22b1 : decide (1 + t103.size ≤ 9223372036854775807) = true := decide_eq_true c22
                  try have c22b2 : (9223372036854775807 < 1 + t103.size) = False := eq_false (Nat.not_lt.2 c22)
                  by_cases c23 : ((⟨#[32]⟩ : ByteArray) ++ t103).size + 1 ≤ 9223372036854775807
                  · rw [if_pos c23] at H
                    have c23b0 := eq_true c23
                    have c23b1 : decide (((⟨#[32]⟩ : ByteArray) ++ t103).size + 1 ≤ 9223372036854775807) = true := decide_eq_true c23
                    try have c23b2 : (9223372036854775807 < ((⟨#[32]⟩ : ByteArray) ++ t103).size + 1) = False := eq_false (Nat.not_lt.2 c23)
                    try have c23b3 : (9223372036854775807 < 1 + t103.size + 1) = False := eq_false (Nat.not_lt.2 (by have z_ := c23; simp only [ByteArray.size_append] at z_; exact z_))
                    obtain rfl := Option.some.inj H
                    go_wp2_with (first | ((with_reducible refine gate_callee (f := 21) rfl ?_); refine goesL_ (some 21) rfl rfl Try.func21 (by kernel_rfl) rfl #[.string (⟨#[45]⟩ : ByteArray), .int .i64 x5_5] rfl (by (try simp only [List.map_toArray, List.map_cons, List.map_nil]); first | done | rfl | (simp only [List.length_drop, List.length_take]; rfl)) ?_; (with_reducible refine (strings_Repeat.calls (⟨#[45]⟩ : ByteArray) x5_5 t103 _ A9.out).mono ?_); rintro e w24 ⟨rfl, hb⟩; refine ⟨_, rfl, ?_⟩; have n0_ := Aside0.mk (below_step (by repeat (first | (with_reducible first | exact HB.out | apply below_alloc | apply pw_below_drewN | apply below_drew1) | exact HB.out)) hb); clear HB; have HB := n0_; clear n0_; (try clear hb); (try clear hb2); (try clear hk); (try clear hi)))
                    go_ret
                    exact ⟨by first | rfl | (simp [errW_none, errW_some] <;> rfl) | (simp [*, errW_none, errW_some] <;> rfl), by repeat (first | (with_reducible first | exact HB.out | apply below_alloc | apply pw_below_drewN | apply below_drew1) | exact HB.out)⟩
                  · rw [if_neg c23] at H
                    exact absurd H (by simp)
                · rw [if_neg c22] at H
                  exact absurd H (by simp)

end Go.Proofs.Ytedknmaaaaomoaa.PMarkdownProperty
