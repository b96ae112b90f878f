-- Written by hprint.py, a program of this session
import Derived.Test.YtnmochachiieaaaDoorPFnBeforeFallsx0
namespace Go.Proofs.YtnmochachiieaaaDoor.PFnBeforeFalls
open Go.RowKit Go.Proofs.YtnmochachiieaaaDoorW.PrintWords Go.Proofs.YtnmochachiieaaaDoorW.PrintLast Go.Proofs.YtnmochachiieaaaDoorW.PrintMore
attribute [local go_sem] max2_int min2_int max_two min_two max_three min_three max_four min_four   -- for this text's walks alone
set_option linter.unusedVariables false
set_option linter.unusedSimpArgs false

-- NOT PRINTED: function 45 (abi_NoEscape)

-- NOT PRINTED: function 29 (strings_Builder_copyCheck)

-- NOT PRINTED: function 46 (bytealg_MakeNoZero)

-- NOT PRINTED: function 30 (strings_Builder_grow)

-- NOT PRINTED: function 14 (strings_Builder_Grow)

-- NOT PRINTED: function 15 (strings_Builder_WriteString)

-- NOT PRINTED: function 16 (strings_Builder_WriteByte)

-- NOT PRINTED: function 17 (strings_Builder_String)

-- NOT PRINTED: function 47 (utf8_decodeRuneInStringSlow)

-- NOT PRINTED: function 31 (utf8_DecodeRuneInString)

/-! ### lightstrconv_fold: function 20 -/
mutual
def lightstrconv_fold.l0 : Nat → ByteArray → ByteArray → Int → Option (Bool)
  | 0, _, _, _ => none
  | k + 1, x0, x1, x5 => if x5 < (x0.size : Int) then (if 0 ≤ x5 then (if 65 ≤ (bt x0 x5) then (lightstrconv_fold.j1 k x0 x1 x5 (bt x0 x5) (decide ((bt x0 x5) ≤ 90))) else (lightstrconv_fold.j1 k x0 x1 x5 (bt x0 x5) false)) else (none)) else (some true)
def lightstrconv_fold.j1 : Nat → ByteArray → ByteArray → Int → Int → Bool → Option (Bool)
  | 0, _, _, _, _, _ => none
  | k + 1, x0, x1, x5, x6, x26 => if x26 = true then (if 0 ≤ x5 then (if x5 < (x1.size : Int) then (if ((x6 + 32) % 256) = (bt x1 x5) then (lightstrconv_fold.l0 k x0 x1 (wrap64 (x5 + 1))) else (some false)) else (none)) else (none)) else (if 0 ≤ x5 then (if x5 < (x1.size : Int) then (if x6 = (bt x1 x5) then (lightstrconv_fold.l0 k x0 x1 (wrap64 (x5 + 1))) else (some false)) else (none)) else (none))
end
def lightstrconv_fold.f (k : Nat) (a0 : ByteArray) (a1 : ByteArray) : Option (Bool) := if (a0.size : Int) = (a1.size : Int) then (lightstrconv_fold.l0 k a0 a1 0) else (some false)
theorem lightstrconv_fold.mono_l : ∀ k, (∀ y0 y1 y2, LeO (lightstrconv_fold.l0 k y0 y1 y2) (lightstrconv_fold.l0 (k + 1) y0 y1 y2)) ∧ (∀ y0 y1 y2 y3 y4, LeO (lightstrconv_fold.j1 k y0 y1 y2 y3 y4) (lightstrconv_fold.j1 (k + 1) y0 y1 y2 y3 y4))
  | 0 => ⟨fun _ _ _ r h => by simp [lightstrconv_fold.l0] at h, fun _ _ _ _ _ r h => by simp [lightstrconv_fold.j1] at h⟩
  | k + 1 => by
    obtain ⟨ih0, ih1⟩ := lightstrconv_fold.mono_l k
    refine ⟨?_, ?_⟩
    · intro y0 y1 y2
      unfold lightstrconv_fold.l0
      repeat' first
      | (with_reducible exact ih0 _ _ _)
      | (with_reducible exact ih1 _ _ _ _ _)
      | (with_reducible exact LeO.refl _)
      | (with_reducible exact LeO.none _)
      | (with_reducible refine LeO.ite ?_ ?_)
      | (with_reducible refine LeO.bind ?_ (fun _ => ?_))
      | exact ih0 _ _ _
      | exact ih1 _ _ _ _ _
      | exact LeO.none _
      | refine LeO.ite ?_ ?_
      | refine LeO.bind ?_ (fun _ => ?_)
    · intro y0 y1 y2 y3 y4
      unfold lightstrconv_fold.j1
      repeat' first
      | (with_reducible exact ih0 _ _ _)
      | (with_reducible exact ih1 _ _ _ _ _)
      | (with_reducible exact LeO.refl _)
      | (with_reducible exact LeO.none _)
      | (with_reducible refine LeO.ite ?_ ?_)
      | (with_reducible refine LeO.bind ?_ (fun _ => ?_))
      | exact ih0 _ _ _
      | exact ih1 _ _ _ _ _
      | exact LeO.none _
      | refine LeO.ite ?_ ?_
      | refine LeO.bind ?_ (fun _ => ?_)
theorem lightstrconv_fold.mono : ∀ a0 a1 k, LeO (lightstrconv_fold.f k a0 a1) (lightstrconv_fold.f (k + 1) a0 a1) := by
  intro a0 a1 k
  obtain ⟨ih0, ih1⟩ := lightstrconv_fold.mono_l k
  unfold lightstrconv_fold.f
  repeat' first
      | (with_reducible exact ih0 _ _ _)
      | (with_reducible exact ih1 _ _ _ _ _)
      | (with_reducible exact LeO.refl _)
      | (with_reducible exact LeO.none _)
      | (with_reducible refine LeO.ite ?_ ?_)
      | (with_reducible refine LeO.bind ?_ (fun _ => ?_))
      | exact ih0 _ _ _
      | exact ih1 _ _ _ _ _
      | exact LeO.none _
      | refine LeO.ite ?_ ?_
      | refine LeO.bind ?_ (fun _ => ?_)
set_option maxHeartbeats 8000000 in
set_option maxRecDepth 100000 in
theorem lightstrconv_fold.calls (k : Nat) (a0 : ByteArray) (a1 : ByteArray) (r : Bool) (w : World) (h : lightstrconv_fold.f k a0 a1 = some r) :
    Calls Tryd.prog 20 #[.string a0, .string a1] w fun e w' => e = .returned (.bool r) ∧ Drawn0 w w' := by
  have H : (if (a0.size : Int) = (a1.size : Int) then (lightstrconv_fold.l0 k a0 a1 0) else (some false)) = some r := h
  clear h
  by_cases c3 : (a0.size : Int) = (a1.size : Int)
  · rw [if_pos c3] at H
    have c3b0 : ((a0.size : Int) == (a1.size : Int)) = true := beq_iff_eq.mpr c3
    have c3b1 : ((a0.size : Int) != (a1.size : Int)) = false := bne_eq_false_iff_eq.mpr c3
    have c3b2 : (a0.size == a1.size) = true := by first | simpa using c3 | (simp at c3 ⊢; omega)
    clear c3
    have H' := Aside0.mk H
    clear H
    go_enter Tryd.func20, Tryd.ntmps20
    go_wp2
    go_loopg [5] k (fun kq v5 w' => ∃ (x5_1 : Int), v5 = .int .i64 x5_1 ∧ Aside0 (lightstrconv_fold.l0 kq a0 a1 x5_1 = some r) ∧ Aside0 (kq ≤ k) ∧ Drawn0 w w')
    case atStart => exact ⟨(0), (by first | rfl | (simp; done) | (simp [*]; done)), H', ⟨Nat.le_refl _⟩, by repeat (first | exact Drawn0.refl _ | apply Drawn0.step)⟩
    case round =>
      clear H'
      try clear c2
      try clear p2
      try clear c3
      try clear c3b0
      try clear c3b1
      try clear c3b2
      obtain ⟨x5_1, rfl, HA, HK1, ⟨m1, rfl⟩⟩ := hrel
      cases gk with
      | zero => exact absurd HA.out (by simp [lightstrconv_fold.l0])
      | succ k1 =>
        have H := HA.out
        clear HA
        simp only [lightstrconv_fold.l0] at H
        by_cases c4 : x5_1 < (a0.size : Int)
        · rw [if_pos c4] at H
          have c4b0 : decide (x5_1 < (a0.size : Int)) = true := decide_eq_true c4
          clear c4
          by_cases c5 : 0 ≤ x5_1
          · rw [if_pos c5] at H
            have c5b0 : decide (0 ≤ x5_1) = true := decide_eq_true c5
            clear c5
            have HC7 := Aside0.mk H
            clear H
            have p6 : 0 ≤ (x5_1 : Int) := of_decide_eq_true (by first | (with_reducible assumption) | assumption)
            have q6 : x5_1 < (a0.size : Int) := of_decide_eq_true (by first | (with_reducible assumption) | assumption)
            have hx6 := bt_at a0 x5_1
            replace p6 := eq_true p6
            replace q6 := eq_true q6
            go_upto_region 7 with (fail)
            go_cut [26] (fun v26 wc => ∃ (kq : Nat) (x26_6 : Bool), v26 = .bool x26_6 ∧ Aside0 (lightstrconv_fold.j1 kq a0 a1 x5_1 (bt a0 x5_1) x26_6 = some r) ∧ Aside0 (kq ≤ k1) ∧ Drawn0 w wc)
            case first =>
              have H := HC7.out
              clear HC7
              by_cases c8 : 65 ≤ (bt a0 x5_1)
              · rw [if_pos c8] at H
                have c8b0 : decide (65 ≤ (bt a0 x5_1)) = true := decide_eq_true c8
                clear c8
                (first | rw [c8b0] | (simp only [i64_w, i32_w]; rw [c8b0]) | skip)
                have H' := Aside0.mk H
                clear H
                go_wp2
                go_meet
                case rel => exact ⟨_, (decide ((bt a0 x5_1) ≤ 90)), (by first | rfl | (simp; done) | (simp [*]; done)), H', ⟨by have := HK1.out; first | omega | exact Nat.le_refl _⟩, by repeat (first | exact Drawn0.refl _ | apply Drawn0.step)⟩
              · rw [if_neg c8] at H
                have c8b0 : decide (65 ≤ (bt a0 x5_1)) = false := decide_eq_false c8
                clear c8
                (first | rw [c8b0] | (simp only [i64_w, i32_w]; rw [c8b0]) | skip)
                have H' := Aside0.mk H
                clear H
                go_wp2
                go_meet
                case rel => exact ⟨_, (false), (by first | rfl | (simp; done) | (simp [*]; done)), H', ⟨by have := HK1.out; first | omega | exact Nat.le_refl _⟩, by repeat (first | exact Drawn0.refl _ | apply Drawn0.step)⟩
            case rest =>
              clear HC7
              try clear c2
              try clear p2
              try clear c3
              try clear c3b0
              try clear c3b1
              try clear c3b2
              try clear c4
              try clear c4b0
              try clear c5
              try clear c5b0
              try clear p6
              try clear q6
              try clear hx6
              try clear c8
              try clear c8b0
              try clear p2
              try clear p6
              try clear q6
              obtain ⟨kq, x26_6, rfl, HA, HJ6, ⟨mc6, rfl⟩⟩ := hcut
              cases kq with
              | zero => exact absurd HA.out (by simp [lightstrconv_fold.j1])
              | succ kj6 =>
                have H := HA.out
                clear HA
                simp only [lightstrconv_fold.j1] at H
                by_cases c9 : x26_6 = true
                · subst c9
                  have H1 : (if 0 ≤ x5_1 then (if x5_1 < (a1.size : Int) then (if (((bt a0 x5_1) + 32) % 256) = (bt a1 x5_1) then (lightstrconv_fold.l0 kj6 a0 a1 (wrap64 (x5_1 + 1))) else (some false)) else (none)) else (none)) = some r := by rw [if_pos rfl] at H; exact H
                  clear H
                  have H := H1
                  clear H1
                  by_cases c10 : 0 ≤ x5_1
                  · rw [if_pos c10] at H
                    have c10b0 : decide (0 ≤ x5_1) = true := decide_eq_true c10
                    clear c10
                    by_cases c11 : x5_1 < (a1.size : Int)
                    · rw [if_pos c11] at H
                      have c11b0 : decide (x5_1 < (a1.size : Int)) = true := decide_eq_true c11
                      clear c11
                      by_cases c13 : (((bt a0 x5_1) + 32) % 256) = (bt a1 x5_1)
                      · rw [if_pos c13] at H
                        have c13b0 : ((((bt a0 x5_1) + 32) % 256) == (bt a1 x5_1)) = true := beq_iff_eq.mpr c13
                        have c13b1 : ((((bt a0 x5_1) + 32) % 256) != (bt a1 x5_1)) = false := bne_eq_false_iff_eq.mpr c13
                        clear c13
                        have H' := Aside0.mk H
                        clear H
                        have p12 : 0 ≤ (x5_1 : Int) := of_decide_eq_true (by first | (with_reducible assumption) | assumption)
                        have q12 : x5_1 < (a1.size : Int) := of_decide_eq_true (by first | (with_reducible assumption) | assumption)
                        have hx12 := bt_at a1 x5_1
                        replace p12 := eq_true p12
                        replace q12 := eq_true q12
                        go_wp2
                        go_roundg kj6
                        case measure => have := HK1.out; have := HJ6.out; omega
                        case rel => exact ⟨(wrap64 (x5_1 + 1)), (by first | rfl | (simp; done) | (simp [*]; done)), H', ⟨by have := HK1.out; have := HJ6.out; omega⟩, by repeat (first | exact Drawn0.refl _ | apply Drawn0.step)⟩
                      · rw [if_neg c13] at H
                        have c13b0 : ((((bt a0 x5_1) + 32) % 256) == (bt a1 x5_1)) = false := beq_eq_false_iff_ne.mpr c13
                        have c13b1 : ((((bt a0 x5_1) + 32) % 256) != (bt a1 x5_1)) = true := bne_iff_ne.mpr c13
                        obtain rfl := Option.some.inj H
                        have p12 : 0 ≤ (x5_1 : Int) := of_decide_eq_true (by first | (with_reducible assumption) | assumption)
                        have q12 : x5_1 < (a1.size : Int) := of_decide_eq_true (by first | (with_reducible assumption) | assumption)
                        have hx12 := bt_at a1 x5_1
                        replace p12 := eq_true p12
                        replace q12 := eq_true q12
                        go_wp2
                        go_ret
                        exact ⟨by first | rfl | (simp; done) | (simp [*]; done), by repeat (first | exact Drawn0.refl _ | apply Drawn0.step)⟩
                    · rw [if_neg c11] at H
                      exact absurd H (by simp)
                  · rw [if_neg c10] at H
                    exact absurd H (by simp)
                · replace c9 := Bool.eq_false_iff.mpr c9
                  subst c9
                  have H1 : (if 0 ≤ x5_1 then (if x5_1 < (a1.size : Int) then (if (bt a0 x5_1) = (bt a1 x5_1) then (lightstrconv_fold.l0 kj6 a0 a1 (wrap64 (x5_1 + 1))) else (some false)) else (none)) else (none)) = some r := by rw [if_neg (show ¬ (false = true) by decide)] at H; exact H
                  clear H
                  have H := H1
                  clear H1
                  by_cases c14 : 0 ≤ x5_1
                  · rw [if_pos c14] at H
                    have c14b0 : decide (0 ≤ x5_1) = true := decide_eq_true c14
                    clear c14
                    by_cases c15 : x5_1 < (a1.size : Int)
                    · rw [if_pos c15] at H
                      have c15b0 : decide (x5_1 < (a1.size : Int)) = true := decide_eq_true c15
                      clear c15
                      by_cases c17 : (bt a0 x5_1) = (bt a1 x5_1)
                      · rw [if_pos c17] at H
                        have c17b0 : ((bt a0 x5_1) == (bt a1 x5_1)) = true := beq_iff_eq.mpr c17
                        have c17b1 : ((bt a0 x5_1) != (bt a1 x5_1)) = false := bne_eq_false_iff_eq.mpr c17
                        clear c17
                        have H' := Aside0.mk H
                        clear H
                        have p16 : 0 ≤ (x5_1 : Int) := of_decide_eq_true (by first | (with_reducible assumption) | assumption)
                        have q16 : x5_1 < (a1.size : Int) := of_decide_eq_true (by first | (with_reducible assumption) | assumption)
                        have hx16 := bt_at a1 x5_1
                        replace p16 := eq_true p16
                        replace q16 := eq_true q16
                        go_wp2
                        go_roundg kj6
                        case measure => have := HK1.out; have := HJ6.out; omega
                        case rel => exact ⟨(wrap64 (x5_1 + 1)), (by first | rfl | (simp; done) | (simp [*]; done)), H', ⟨by have := HK1.out; have := HJ6.out; omega⟩, by repeat (first | exact Drawn0.refl _ | apply Drawn0.step)⟩
                      · rw [if_neg c17] at H
                        have c17b0 : ((bt a0 x5_1) == (bt a1 x5_1)) = false := beq_eq_false_iff_ne.mpr c17
                        have c17b1 : ((bt a0 x5_1) != (bt a1 x5_1)) = true := bne_iff_ne.mpr c17
                        obtain rfl := Option.some.inj H
                        have p16 : 0 ≤ (x5_1 : Int) := of_decide_eq_true (by first | (with_reducible assumption) | assumption)
                        have q16 : x5_1 < (a1.size : Int) := of_decide_eq_true (by first | (with_reducible assumption) | assumption)
                        have hx16 := bt_at a1 x5_1
                        replace p16 := eq_true p16
                        replace q16 := eq_true q16
                        go_wp2
                        go_ret
                        exact ⟨by first | rfl | (simp; done) | (simp [*]; done), by repeat (first | exact Drawn0.refl _ | apply Drawn0.step)⟩
                    · rw [if_neg c15] at H
                      exact absurd H (by simp)
                  · rw [if_neg c14] at H
                    exact absurd H (by simp)
          · rw [if_neg c5] at H
            exact absurd H (by simp)
        · rw [if_neg c4] at H
          have c4b0 : decide (x5_1 < (a0.size : Int)) = false := decide_eq_false c4
          clear c4
          obtain rfl := Option.some.inj H
          go_wp2
          go_ret
          exact ⟨by first | rfl | (simp; done) | (simp [*]; done), by repeat (first | exact Drawn0.refl _ | apply Drawn0.step)⟩
  · rw [if_neg c3] at H
    have c3b0 : ((a0.size : Int) == (a1.size : Int)) = false := beq_eq_false_iff_ne.mpr c3
    have c3b1 : ((a0.size : Int) != (a1.size : Int)) = true := bne_iff_ne.mpr c3
    have c3b2 : (a0.size == a1.size) = false := by first | simpa using c3 | (simp at c3 ⊢; omega)
    obtain rfl := Option.some.inj H
    go_enter Tryd.func20, Tryd.ntmps20
    go_wp2
    go_ret
    exact ⟨by first | rfl | (simp; done) | (simp [*]; done), by repeat (first | exact Drawn0.refl _ | apply Drawn0.step)⟩

-- NOT PRINTED: function 21 (math_Float32frombits)

-- NOT PRINTED: function 36 (math_Float64frombits)

-- NOT PRINTED: function 22 (math_NaN)

/-! ### lightstrconv_formOf: function 23 -/
def lightstrconv_formOf.f (a0 : Int) : Option (Int × Int × Int) := if a0 = 32 then (some (23, 8, (-127))) else (some (52, 11, (-1023)))
set_option maxHeartbeats 8000000 in
set_option maxRecDepth 100000 in
theorem lightstrconv_formOf.calls (a0 : Int) (r1 : Int) (r2 : Int) (r3 : Int) (w : World) (h : lightstrconv_formOf.f a0 = some (r1, r2, r3)) :
    Calls Tryd.prog 23 #[.int .i64 a0] w fun e w' => e = .returned (.agg #[.int .i64 r1, .int .i64 r2, .int .i64 r3]) ∧ Below w.heap.size w w' := by
  have hu55 := Tryd.underlying55
  have HB := Aside0.mk (Below.refl w.heap.size w)
  have H : (if a0 = 32 then (some (23, 8, (-127))) else (some (52, 11, (-1023)))) = some (r1, r2, r3) := h
  clear h
  by_cases c2 : a0 = 32
  · rw [if_pos c2] at H
    have c2b0 : (a0 == 32) = true := beq_iff_eq.mpr c2
    have c2b1 : (a0 != 32) = false := bne_eq_false_iff_eq.mpr c2
    clear c2
    simp only [Option.some.injEq, Prod.mk.injEq] at H
    obtain ⟨rfl, rfl, rfl⟩ := H
    go_enter Tryd.func23, Tryd.ntmps23
    go_wp2_with (first | ((with_reducible refine gate_dst (N := 2) rfl ?_); refine box_event ?hg (N := 2) ?hd (cs := #[.int .i64 0, .int .i64 0, .int .i64 0]) (t := 55) ?hr ?_; (case hd => rfl); (case hg => rfl); (case hr => first | (go_simp; done) | (go_simp; rfl)); intro gb137 hg w3 hbox hb; have n0_ := Aside0.mk (below_step (by repeat (first | (with_reducible first | exact HB.out | apply below_alloc | apply pw_below_drewN | apply below_drew1) | exact HB.out)) hb); have n1_ := Aside0.mk (hbox); have n2_ := Aside0.mk ((by rw [hg]; exact (below_size (by repeat (first | (with_reducible first | exact HB.out | apply below_alloc | apply pw_below_drewN | apply below_drew1) | exact HB.out))) : w.heap.size ≤ gb137)); have n3_ := Aside0.mk ((by rw [hg]; exact (below_size (by repeat (first | (with_reducible first | exact HB.out | apply below_alloc | apply pw_below_drewN | apply below_drew1) | exact HB.out))) : w.heap.size ≤ gb137)); clear HB; have HB := n0_; have BK137 := n1_; have GW137 := n2_; have GE137 := n3_; clear n0_ n1_ n2_ n3_; clear hb hbox hg; have hcz4_0 : w3.cell? ⟨gb137, 0, none⟩ = some (.int .i64 0) := (blk_cell BK137.out 0).trans rfl; have hcz4_1 : w3.cell? ⟨gb137, 1, none⟩ = some (.int .i64 0) := (blk_cell BK137.out 1).trans rfl; have hcz4_2 : w3.cell? ⟨gb137, 2, none⟩ = some (.int .i64 0) := (blk_cell BK137.out 2).trans rfl; have hfz4_0 := blk_frozen BK137.out 0; have hfz4_1 := blk_frozen BK137.out 1; have hfz4_2 := blk_frozen BK137.out 2))
    refine bodyPost_ret (results_cell_row rfl _ _ gb137 55 #[.int .i64 23, .int .i64 8, .int .i64 (-127)] (0, 0) _ rfl (by (with_reducible repeat (first | refine blk_drewN ?_ _ | refine blk_drew ?_ | refine blk_alloc ?_ _)); refine blk_put (cs := #[.int .i64 23, .int .i64 8, .int .i64 0]) ?_ 2 _ rfl; (with_reducible repeat (first | refine blk_drewN ?_ _ | refine blk_drew ?_ | refine blk_alloc ?_ _)); refine blk_put (cs := #[.int .i64 23, .int .i64 0, .int .i64 0]) ?_ 1 _ rfl; (with_reducible repeat (first | refine blk_drewN ?_ _ | refine blk_drew ?_ | refine blk_alloc ?_ _)); refine blk_put (cs := #[.int .i64 0, .int .i64 0, .int .i64 0]) ?_ 0 _ rfl; (with_reducible repeat (first | refine blk_drewN ?_ _ | refine blk_drew ?_ | refine blk_alloc ?_ _)); exact BK137.out) Tryd.underlying55 rfl (by kernel_rfl)) rfl ?_
    exact ⟨by first | rfl | (simp [errW_none, errW_some] <;> rfl) | (simp [errW_none, errW_some, It.bne_nil] <;> rfl) | (simp [errW_none, errW_some, It.bne_nil]; done) | (simp [*, errW_none, errW_some] <;> rfl), by repeat (first | (with_reducible first | exact HB.out | apply below_alloc | apply pw_below_drewN | apply below_drew1 | refine below_set ?_ GE137.out) | exact HB.out)⟩
  · rw [if_neg c2] at H
    have c2b0 : (a0 == 32) = false := beq_eq_false_iff_ne.mpr c2
    have c2b1 : (a0 != 32) = true := bne_iff_ne.mpr c2
    simp only [Option.some.injEq, Prod.mk.injEq] at H
    obtain ⟨rfl, rfl, rfl⟩ := H
    go_enter Tryd.func23, Tryd.ntmps23
    go_wp2_with (first | ((with_reducible refine gate_dst (N := 2) rfl ?_); refine box_event ?hg (N := 2) ?hd (cs := #[.int .i64 0, .int .i64 0, .int .i64 0]) (t := 55) ?hr ?_; (case hd => rfl); (case hg => rfl); (case hr => first | (go_simp; done) | (go_simp; rfl)); intro gb137 hg w5 hbox hb; have n0_ := Aside0.mk (below_step (by repeat (first | (with_reducible first | exact HB.out | apply below_alloc | apply pw_below_drewN | apply below_drew1) | exact HB.out)) hb); have n1_ := Aside0.mk (hbox); have n2_ := Aside0.mk ((by rw [hg]; exact (below_size (by repeat (first | (with_reducible first | exact HB.out | apply below_alloc | apply pw_below_drewN | apply below_drew1) | exact HB.out))) : w.heap.size ≤ gb137)); have n3_ := Aside0.mk ((by rw [hg]; exact (below_size (by repeat (first | (with_reducible first | exact HB.out | apply below_alloc | apply pw_below_drewN | apply below_drew1) | exact HB.out))) : w.heap.size ≤ gb137)); clear HB; have HB := n0_; have BK137 := n1_; have GW137 := n2_; have GE137 := n3_; clear n0_ n1_ n2_ n3_; clear hb hbox hg; have hcz6_0 : w5.cell? ⟨gb137, 0, none⟩ = some (.int .i64 0) := (blk_cell BK137.out 0).trans rfl; have hcz6_1 : w5.cell? ⟨gb137, 1, none⟩ = some (.int .i64 0) := (blk_cell BK137.out 1).trans rfl; have hcz6_2 : w5.cell? ⟨gb137, 2, none⟩ = some (.int .i64 0) := (blk_cell BK137.out 2).trans rfl; have hfz6_0 := blk_frozen BK137.out 0; have hfz6_1 := blk_frozen BK137.out 1; have hfz6_2 := blk_frozen BK137.out 2))
    refine bodyPost_ret (results_cell_row rfl _ _ gb137 55 #[.int .i64 52, .int .i64 11, .int .i64 (-1023)] (0, 0) _ rfl (by (with_reducible repeat (first | refine blk_drewN ?_ _ | refine blk_drew ?_ | refine blk_alloc ?_ _)); refine blk_put (cs := #[.int .i64 52, .int .i64 11, .int .i64 0]) ?_ 2 _ rfl; (with_reducible repeat (first | refine blk_drewN ?_ _ | refine blk_drew ?_ | refine blk_alloc ?_ _)); refine blk_put (cs := #[.int .i64 52, .int .i64 0, .int .i64 0]) ?_ 1 _ rfl; (with_reducible repeat (first | refine blk_drewN ?_ _ | refine blk_drew ?_ | refine blk_alloc ?_ _)); refine blk_put (cs := #[.int .i64 0, .int .i64 0, .int .i64 0]) ?_ 0 _ rfl; (with_reducible repeat (first | refine blk_drewN ?_ _ | refine blk_drew ?_ | refine blk_alloc ?_ _)); exact BK137.out) Tryd.underlying55 rfl (by kernel_rfl)) rfl ?_
    exact ⟨by first | rfl | (simp [errW_none, errW_some] <;> rfl) | (simp [errW_none, errW_some, It.bne_nil] <;> rfl) | (simp [errW_none, errW_some, It.bne_nil]; done) | (simp [*, errW_none, errW_some] <;> rfl), by repeat (first | (with_reducible first | exact HB.out | apply below_alloc | apply pw_below_drewN | apply below_drew1 | refine below_set ?_ GE137.out) | exact HB.out)⟩

-- NOT PRINTED: function 24 (lightstrconv_form_float)

/-! ### lightstrconv_lower: function 37 -/
def lightstrconv_lower.f (a0 : Int) : Option (Int) := some (Go.bits .or .u8 a0 32)
set_option maxHeartbeats 8000000 in
set_option maxRecDepth 100000 in
theorem lightstrconv_lower.calls (a0 : Int) (r : Int) (w : World) (h : lightstrconv_lower.f a0 = some r) :
    Calls Tryd.prog 37 #[.int .u8 a0] w fun e w' => e = .returned (.int .u8 r) ∧ Drawn0 w w' := by
  have H : (some (Go.bits .or .u8 a0 32)) = some r := h
  clear h
  obtain rfl := Option.some.inj H
  go_enter Tryd.func37, Tryd.ntmps37
  go_wp2
  go_ret
  exact ⟨by first | rfl | (simp; done) | (simp [*]; done), by repeat (first | exact Drawn0.refl _ | apply Drawn0.step)⟩

-- NOT PRINTED: function 38 (lightstrconv_decimal_trim)

-- NOT PRINTED: function 50 (lightstrconv_FormatUint)

-- NOT PRINTED: function 39 (lightstrconv_newDecimal)

-- NOT PRINTED: function 42 (lightstrconv_decimal_half)

-- NOT PRINTED: function 43 (lightstrconv_decimal_double)

-- NOT PRINTED: function 40 (lightstrconv_decimal_shift)

-- NOT PRINTED: function 25 (lightstrconv_read)

end Go.Proofs.YtnmochachiieaaaDoor.PFnBeforeFalls
