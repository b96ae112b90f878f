-- Written by hprint.py, a program of this session
import Derived.Test.YthepbgakfkiliaaRDoorPFnTextEscapex0
namespace Go.Proofs.YthepbgakfkiliaaRDoor.PFnTextEscape
open Go.RowKit Go.Proofs.YthepbgakfkiliaaRDoor.Hand Go.Proofs.YthepbgakfkiliaaRDoorW.PrintWords Go.Proofs.YthepbgakfkiliaaRDoorW.PrintLast Go.Proofs.YthepbgakfkiliaaRDoorW.PrintMore
attribute [local go_sem] max2_int min2_int max_two min_two max_three min_three max_four min_four   -- for this text's walks alone
set_option linter.unusedVariables false
set_option linter.unusedSimpArgs false

-- BY HAND: function 21 (strconv_Itoa)

/-! ### spec_TxSequence: function 9 -/
mutual
def spec_TxSequence.l0 : Nat → ByteArray → List Int → Int → Int → Option (ByteArray)
  | 0, _, _, _, _ => none
  | k + 1, x3, x9, x10, x11 => if x11 < x10 then (if 0 ≤ x11 then (if x11 < (x9.length : Int) then (if x11 > 0 then (if x3.size + 1 ≤ 9223372036854775807 then (spec_TxSequence.j1 k (x3 ++ (⟨#[59]⟩ : ByteArray)) (rd x9 x11) x9 x10 x11) else (none)) else (spec_TxSequence.j1 k x3 (rd x9 x11) x9 x10 x11)) else (none)) else (none)) else (if x3.size + 1 ≤ 9223372036854775807 then (some (x3 ++ (⟨#[109]⟩ : ByteArray))) else (none))
def spec_TxSequence.j1 : Nat → ByteArray → Int → List Int → Int → Int → Option (ByteArray)
  | 0, _, _, _, _, _ => none
  | k + 1, x3, x5, x9, x10, x11 => (strconv_Itoa.f x5).bind fun t119 => (if x3.size + t119.size ≤ 9223372036854775807 then (spec_TxSequence.l0 k (x3 ++ t119) x9 x10 (wrap64 (x11 + 1))) else (none))
end
def spec_TxSequence.f (k : Nat) (l0 : List Int) : Option (ByteArray) := if (l0.length : Int) = 0 then (some (⟨#[]⟩ : ByteArray)) else (spec_TxSequence.l0 k (⟨#[27, 91]⟩ : ByteArray) l0 (l0.length : Int) 0)
theorem spec_TxSequence.mono_l : ∀ k, (∀ y0 y1 y2 y3, LeO (spec_TxSequence.l0 k y0 y1 y2 y3) (spec_TxSequence.l0 (k + 1) y0 y1 y2 y3)) ∧ (∀ y0 y1 y2 y3 y4, LeO (spec_TxSequence.j1 k y0 y1 y2 y3 y4) (spec_TxSequence.j1 (k + 1) y0 y1 y2 y3 y4))
  | 0 => ⟨fun _ _ _ _ r h => by simp [spec_TxSequence.l0] at h, fun _ _ _ _ _ r h => by simp [spec_TxSequence.j1] at h⟩
  | k + 1 => by
    obtain ⟨ih0, ih1⟩ := spec_TxSequence.mono_l k
    refine ⟨?_, ?_⟩
    · intro y0 y1 y2 y3
      unfold spec_TxSequence.l0
      repeat' first
      | (with_reducible exact ih0 _ _ _ _)
      | (with_reducible exact ih1 _ _ _ _ _)
      | (with_reducible exact LeO.refl _)
      | (with_reducible exact LeO.none _)
      | (with_reducible refine LeO.ite ?_ ?_)
      | (with_reducible refine LeO.bind ?_ (fun _ => ?_))
      | exact ih0 _ _ _ _
      | exact ih1 _ _ _ _ _
      | exact LeO.none _
      | refine LeO.ite ?_ ?_
      | refine LeO.bind ?_ (fun _ => ?_)
    · intro y0 y1 y2 y3 y4
      unfold spec_TxSequence.j1
      repeat' first
      | (with_reducible exact ih0 _ _ _ _)
      | (with_reducible exact ih1 _ _ _ _ _)
      | (with_reducible exact LeO.refl _)
      | (with_reducible exact LeO.none _)
      | (with_reducible refine LeO.ite ?_ ?_)
      | (with_reducible refine LeO.bind ?_ (fun _ => ?_))
      | exact ih0 _ _ _ _
      | exact ih1 _ _ _ _ _
      | exact LeO.none _
      | refine LeO.ite ?_ ?_
      | refine LeO.bind ?_ (fun _ => ?_)
theorem spec_TxSequence.mono : ∀ a0 k, LeO (spec_TxSequence.f k a0) (spec_TxSequence.f (k + 1) a0) := by
  intro a0 k
  obtain ⟨ih0, ih1⟩ := spec_TxSequence.mono_l k
  unfold spec_TxSequence.f
  repeat' first
      | (with_reducible exact ih0 _ _ _ _)
      | (with_reducible exact ih1 _ _ _ _ _)
      | (with_reducible exact LeO.refl _)
      | (with_reducible exact LeO.none _)
      | (with_reducible refine LeO.ite ?_ ?_)
      | (with_reducible refine LeO.bind ?_ (fun _ => ?_))
      | exact ih0 _ _ _ _
      | exact ih1 _ _ _ _ _
      | exact LeO.none _
      | refine LeO.ite ?_ ?_
      | refine LeO.bind ?_ (fun _ => ?_)
set_option maxHeartbeats 8000000 in
set_option maxRecDepth 100000 in
theorem spec_TxSequence.calls (k : Nat) (A0 : Option Addr) (c0 : Nat) (l0 : List Int) (r : ByteArray) (w : World) (hT : LaidW w) (hr0 : Kd.C (Kd.int .i64) w A0 l0.length l0) (hc0 : l0.length ≤ c0) (h : spec_TxSequence.f k l0 = some r) :
    Calls Tryd.prog 9 #[.slice A0 l0.length c0] w fun e w' => e = .returned (.string r) ∧ Below w.heap.size w w' := by
  have HR0 := Aside0.mk hr0
  have HC0 := Aside0.mk hc0
  clear hr0 hc0
  have HB := Aside0.mk (Below.refl w.heap.size w)
  have H : (if (l0.length : Int) = 0 then (some (⟨#[]⟩ : ByteArray)) else (spec_TxSequence.l0 k (⟨#[27, 91]⟩ : ByteArray) l0 (l0.length : Int) 0)) = some r := h
  clear h
  by_cases c2 : (l0.length : Int) = 0
  · rw [if_pos c2] at H
    have c2b0 : ((l0.length : Int) == 0) = true := beq_iff_eq.mpr c2
    have c2b1 : ((l0.length : Int) != 0) = false := bne_eq_false_iff_eq.mpr c2
    clear c2
    obtain rfl := Option.some.inj H
    go_enter Tryd.func9, Tryd.ntmps9
    go_wp2
    go_ret
    exact ⟨by first | rfl | (simp [errW_none, errW_some] <;> rfl) | (simp [*, errW_none, errW_some] <;> rfl), by repeat (first | (with_reducible first | exact HB.out | apply below_alloc | apply pw_below_drewN | apply below_drew1) | exact HB.out)⟩
  · rw [if_neg c2] at H
    have c2b0 : ((l0.length : Int) == 0) = false := beq_eq_false_iff_ne.mpr c2
    have c2b1 : ((l0.length : Int) != 0) = true := bne_iff_ne.mpr c2
    have c2b2 : ¬ (l0 = []) := fun h_ => c2 (by rw [h_]; rfl)
    have H' := Aside0.mk H
    clear H
    go_enter Tryd.func9, Tryd.ntmps9
    go_wp2
    go_loopg [3, 11] k (fun kq v3 v11 w' => ∃ (x3_1 : ByteArray) (x11_1 : Int), v3 = .string x3_1 ∧ v11 = .int .i64 x11_1 ∧ Aside0 (spec_TxSequence.l0 kq x3_1 l0 (l0.length : Int) x11_1 = some r) ∧ Aside0 (kq ≤ k) ∧ Aside0 (Below w.heap.size w w'))
    case atStart => exact ⟨((⟨#[27, 91]⟩ : ByteArray)), (0), (by first | rfl | (simp; done) | (simp [*]; done)), (by first | rfl | (simp; done) | (simp [*]; done)), H', ⟨Nat.le_refl _⟩, ⟨by repeat (first | (with_reducible first | exact HB.out | apply below_alloc | apply pw_below_drewN | apply below_drew1) | exact HB.out)⟩⟩
    case round =>
      clear H'
      try clear c2
      try clear c2b0
      try clear c2b1
      try clear c2b2
      try clear p2
      obtain ⟨x3_1, x11_1, rfl, rfl, HA, HK1, HB⟩ := hrel
      cases gk with
      | zero => exact absurd HA.out (by simp [spec_TxSequence.l0])
      | succ k1 =>
        have H := HA.out
        clear HA
        simp only [spec_TxSequence.l0] at H
        by_cases c3 : x11_1 < (l0.length : Int)
        · rw [if_pos c3] at H
          have c3b0 : decide (x11_1 < (l0.length : Int)) = true := decide_eq_true c3
          clear c3
          by_cases c4 : 0 ≤ x11_1
          · rw [if_pos c4] at H
            have c4b0 : decide (0 ≤ x11_1) = true := decide_eq_true c4
            clear c4
            by_cases c5 : x11_1 < (l0.length : Int)
            · rw [if_pos c5] at H
              have c5b0 : decide (x11_1 < (l0.length : Int)) = true := decide_eq_true c5
              clear c5
              have HC6 := Aside0.mk H
              clear H
              have p118 : 0 ≤ (x11_1 : Int) := of_decide_eq_true (by first | (with_reducible assumption) | assumption)
              have q118 : x11_1 < (l0.length : Int) := of_decide_eq_true (by first | (with_reducible assumption) | assumption)
              obtain ⟨ad118, e118, hx118_0⟩ := Kd.at_int HR0.out x11_1 p118 q118
              cases e118
              replace hx118_0 := (HB.out.cell (World.block_lt_of_cell? w _ hx118_0)).trans hx118_0
              (try simp only [Go.IntWalk.toNatUp] at hx118_0)
              replace p118 := eq_true p118
              replace q118 := eq_true q118
              go_upto_if 17 with (fail)
              go_cut [3] (fun v3 wc => ∃ (kq : Nat) (x3_5 : ByteArray), v3 = .string x3_5 ∧ Aside0 (spec_TxSequence.j1 kq x3_5 (rd l0 x11_1) l0 (l0.length : Int) x11_1 = some r) ∧ Aside0 (kq ≤ k1) ∧ Aside0 (Below w.heap.size w wc))
              case first =>
                have H := HC6.out
                clear HC6
                by_cases c7 : x11_1 > 0
                · rw [if_pos c7] at H
                  have c7b0 : decide (0 < x11_1) = true := decide_eq_true c7
                  clear c7
                  (first | rw [c7b0] | (simp only [i64_w, i32_w]; rw [c7b0]) | skip)
                  by_cases c8 : x3_1.size + 1 ≤ 9223372036854775807
                  · rw [if_pos c8] at H
                    have c8b0 := eq_true c8
                    have c8b1 : decide (x3_1.size + 1 ≤ 9223372036854775807) = true := decide_eq_true c8
                    try have c8b2 : (9223372036854775807 < x3_1.size + 1) = False := eq_false (Nat.not_lt.2 c8)
                    have H' := Aside0.mk H
                    clear H
                    go_wp2
                    go_meet
                    case rel => exact ⟨_, (x3_1 ++ (⟨#[59]⟩ : ByteArray)), (by first | rfl | (simp; done) | (simp [*]; done)), H', ⟨by have := HK1.out; first | omega | exact Nat.le_refl _⟩, ⟨by repeat (first | (with_reducible first | exact HB.out | apply below_alloc | apply pw_below_drewN | apply below_drew1) | exact HB.out)⟩⟩
                  · rw [if_neg c8] at H
                    exact absurd H (by simp)
                · rw [if_neg c7] at H
                  have c7b0 : decide (0 < x11_1) = false := decide_eq_false c7
                  clear c7
                  (first | rw [c7b0] | (simp only [i64_w, i32_w]; rw [c7b0]) | skip)
                  have H' := Aside0.mk H
                  clear H
                  go_wp2
                  go_meet
                  case rel => exact ⟨_, (x3_1), (by first | rfl | (simp; done) | (simp [*]; done)), H', ⟨by have := HK1.out; first | omega | exact Nat.le_refl _⟩, ⟨by repeat (first | (with_reducible first | exact HB.out | apply below_alloc | apply pw_below_drewN | apply below_drew1) | exact HB.out)⟩⟩
              case rest =>
                clear HC6
                try clear p1
                try clear q1
                try clear hx1
                try clear c2
                try clear c2b0
                try clear c2b1
                try clear c2b2
                try clear p2
                try clear c3
                try clear c3b0
                try clear c4
                try clear c4b0
                try clear c5
                try clear c5b0
                try clear c7
                try clear c7b0
                try clear c8
                try clear c8b0
                try clear c8b1
                try clear c8b2
                try clear hx118_0
                try clear p118
                try clear p2
                try clear q118
                obtain ⟨kq, x3_5, rfl, HA, HJ5, HB⟩ := hcut
                cases kq with
                | zero => exact absurd HA.out (by simp [spec_TxSequence.j1])
                | succ kj5 =>
                  have H := HA.out
                  clear HA
                  simp only [spec_TxSequence.j1] at H
                  replace H := Option.bind_eq_some_iff.mp H
                  obtain ⟨t119, A90, H⟩ := H
                  replace H : (if x3_5.size + t119.size ≤ 9223372036854775807 then (spec_TxSequence.l0 kj5 (x3_5 ++ t119) l0 (l0.length : Int) (wrap64 (x11_1 + 1))) else (none)) = some r := H
                  have A9 := Aside0.mk A90
                  clear A90
                  by_cases c10 : x3_5.size + t119.size ≤ 9223372036854775807
                  · rw [if_pos c10] at H
                    have c10b0 := eq_true c10
                    have c10b1 : decide (x3_5.size + t119.size ≤ 9223372036854775807) = true := decide_eq_true c10
                    try have c10b2 : (9223372036854775807 < x3_5.size + t119.size) = False := eq_false (Nat.not_lt.2 c10)
                    have H' := Aside0.mk H
                    clear H
                    go_wp2_with (first | ((with_reducible refine gate_callee (f := 21) rfl ?_); refine goesL_ (some 22) rfl rfl Tryd.func21 (by kernel_rfl) rfl #[.int .i64 (rd l0 x11_1)] rfl (by (try simp only [List.map_toArray, List.map_cons, List.map_nil]); first | done | rfl | (simp only [List.length_drop, List.length_take]; rfl)) ?_; (with_reducible refine (strconv_Itoa.calls (rd l0 x11_1) t119 _ ?side1 A9.out).mono ?_); (case side1 => exact LaidW.on hT (by repeat (first | (with_reducible first | exact HB.out | apply below_alloc | apply pw_below_drewN | apply below_drew1) | exact HB.out))); rintro e w11 ⟨rfl, hb⟩; refine ⟨_, rfl, ?_⟩; have n0_ := Aside0.mk (below_step (by repeat (first | (with_reducible first | exact HB.out | apply below_alloc | apply pw_below_drewN | apply below_drew1) | exact HB.out)) hb); clear HB; have HB := n0_; clear n0_; (try clear hb); (try clear hb2); (try clear hk); (try clear hi)))
                    go_roundg kj5
                    case measure => have := HK1.out; have := HJ5.out; omega
                    case rel => exact ⟨(x3_5 ++ t119), (wrap64 (x11_1 + 1)), (by first | rfl | (simp; done) | (simp [*]; done)), (by first | rfl | (simp; done) | (simp [*]; done)), H', ⟨by have := HK1.out; have := HJ5.out; omega⟩, ⟨by repeat (first | (with_reducible first | exact HB.out | apply below_alloc | apply pw_below_drewN | apply below_drew1) | exact HB.out)⟩⟩
                  · rw [if_neg c10] at H
                    exact absurd H (by simp)
            · rw [if_neg c5] at H
              exact absurd H (by simp)
          · rw [if_neg c4] at H
            exact absurd H (by simp)
        · rw [if_neg c3] at H
          have c3b0 : decide (x11_1 < (l0.length : Int)) = false := decide_eq_false c3
          clear c3
          by_cases c12 : x3_1.size + 1 ≤ 9223372036854775807
          · rw [if_pos c12] at H
            have c12b0 := eq_true c12
            have c12b1 : decide (x3_1.size + 1 ≤ 9223372036854775807) = true := decide_eq_true c12
            try have c12b2 : (9223372036854775807 < x3_1.size + 1) = False := eq_false (Nat.not_lt.2 c12)
            obtain rfl := Option.some.inj H
            go_wp2
            go_ret
            exact ⟨by first | rfl | (simp [errW_none, errW_some] <;> rfl) | (simp [*, errW_none, errW_some] <;> rfl), by repeat (first | (with_reducible first | exact HB.out | apply below_alloc | apply pw_below_drewN | apply below_drew1) | exact HB.out)⟩
          · rw [if_neg c12] at H
            exact absurd H (by simp)

-- BY HAND: function 22 (text_Escape)

/-! ### impl_TextEscape: function 10 -/
def impl_TextEscape.f (k : Nat) (a0 : ByteArray) (a1 : ByteArray) : Option (ByteArray) := (text_Escape.f k a0 a1).bind fun t120 => (some t120)
theorem impl_TextEscape.mono : ∀ a0 a1 k, LeO (impl_TextEscape.f k a0 a1) (impl_TextEscape.f (k + 1) a0 a1) := by
  intro a0 a1 k
  unfold impl_TextEscape.f
  repeat' first
      | (with_reducible exact text_Escape.mono _ _ _)
      | (with_reducible exact LeO.refl _)
      | (with_reducible exact LeO.none _)
      | (with_reducible refine LeO.ite ?_ ?_)
      | (with_reducible refine LeO.bind ?_ (fun _ => ?_))
      | exact text_Escape.mono _ _ _
      | exact LeO.none _
      | refine LeO.ite ?_ ?_
      | refine LeO.bind ?_ (fun _ => ?_)
set_option maxHeartbeats 8000000 in
set_option maxRecDepth 100000 in
theorem impl_TextEscape.calls (k : Nat) (a0 : ByteArray) (a1 : ByteArray) (r : ByteArray) (w : World) (h : impl_TextEscape.f k a0 a1 = some r) :
    Calls Tryd.prog 10 #[.string a0, .string a1] w fun e w' => e = .returned (.string r) ∧ Below w.heap.size w w' := by
  have HB := Aside0.mk (Below.refl w.heap.size w)
  have H : ((text_Escape.f k a0 a1).bind fun t120 => (some t120)) = some r := h
  clear h
  replace H := Option.bind_eq_some_iff.mp H
  obtain ⟨t120, A30, H⟩ := H
  replace H : (some t120) = some r := H
  have A3 := Aside0.mk A30
  clear A30
  obtain rfl := Option.some.inj H
  go_enter Tryd.func10, Tryd.ntmps10
  go_wp2_with (first | ((with_reducible refine gate_callee (f := 22) rfl ?_); refine goesL_ (some 7) rfl rfl Tryd.func22 (by kernel_rfl) rfl #[.string a0, .string a1] rfl (by (try simp only [List.map_toArray, List.map_cons, List.map_nil]); first | done | rfl | (simp only [List.length_drop, List.length_take]; rfl)) ?_; (with_reducible refine (text_Escape.calls k a0 a1 t120 _ A3.out).mono ?_); rintro e w4 ⟨rfl, hb⟩; refine ⟨_, rfl, ?_⟩; have n0_ := Aside0.mk (below_step (by repeat (first | (with_reducible first | exact HB.out | apply below_alloc | apply pw_below_drewN | apply below_drew1) | exact HB.out)) hb); clear HB; have HB := n0_; clear n0_; (try clear hb); (try clear hb2); (try clear hk); (try clear hi)))
  go_ret
  exact ⟨by first | rfl | (simp [errW_none, errW_some] <;> rfl) | (simp [*, errW_none, errW_some] <;> rfl), by repeat (first | (with_reducible first | exact HB.out | apply below_alloc | apply pw_below_drewN | apply below_drew1) | exact HB.out)⟩

/-! ### spec_TxColored: function 11 -/
def spec_TxColored.l0 : Nat → ByteArray → List (S43) → Int → Int → Option (ByteArray)
  | 0, _, _, _, _ => none
  | k + 1, x3, x6, x7, x8 => if x8 < x7 then (if 0 ≤ x8 then (if x8 < (x6.length : Int) then (if ((rd_T43 x6 x8).f0) > 0 then ((spec_TxSequence.f k (([(rd_T43 x6 x8).f0] : List Int))).bind fun t126 => (if t126.size + ((rd_T43 x6 x8).f1).size ≤ 9223372036854775807 then (if (t126 ++ ((rd_T43 x6 x8).f1)).size + 4 ≤ 9223372036854775807 then (if x3.size + ((t126 ++ ((rd_T43 x6 x8).f1)) ++ (⟨#[27, 91, 48, 109]⟩ : ByteArray)).size ≤ 9223372036854775807 then (spec_TxColored.l0 k (x3 ++ ((t126 ++ ((rd_T43 x6 x8).f1)) ++ (⟨#[27, 91, 48, 109]⟩ : ByteArray))) x6 x7 (wrap64 (x8 + 1))) else (none)) else (none)) else (none))) else (if x3.size + ((rd_T43 x6 x8).f1).size ≤ 9223372036854775807 then (spec_TxColored.l0 k (x3 ++ ((rd_T43 x6 x8).f1)) x6 x7 (wrap64 (x8 + 1))) else (none))) else (none)) else (none)) else (some x3)
def spec_TxColored.f (k : Nat) (l0 : List (S43)) : Option (ByteArray) := spec_TxColored.l0 k (⟨#[]⟩ : ByteArray) l0 (l0.length : Int) 0
theorem spec_TxColored.mono_l : ∀ k, (∀ y0 y1 y2 y3, LeO (spec_TxColored.l0 k y0 y1 y2 y3) (spec_TxColored.l0 (k + 1) y0 y1 y2 y3))
  | 0 => fun _ _ _ _ r h => by simp [spec_TxColored.l0] at h
  | k + 1 => by
    have ih0 := spec_TxColored.mono_l k
    · intro y0 y1 y2 y3
      unfold spec_TxColored.l0
      repeat' first
      | (with_reducible exact ih0 _ _ _ _)
      | (with_reducible exact spec_TxSequence.mono _ _)
      | (with_reducible exact LeO.refl _)
      | (with_reducible exact LeO.none _)
      | (with_reducible refine LeO.ite ?_ ?_)
      | (with_reducible refine LeO.bind ?_ (fun _ => ?_))
      | exact ih0 _ _ _ _
      | exact spec_TxSequence.mono _ _
      | exact LeO.none _
      | refine LeO.ite ?_ ?_
      | refine LeO.bind ?_ (fun _ => ?_)
theorem spec_TxColored.mono : ∀ a0 k, LeO (spec_TxColored.f k a0) (spec_TxColored.f (k + 1) a0) := by
  intro a0 k
  have ih0 := spec_TxColored.mono_l k
  unfold spec_TxColored.f
  repeat' first
      | (with_reducible exact ih0 _ _ _ _)
      | (with_reducible exact spec_TxSequence.mono _ _)
      | (with_reducible exact LeO.refl _)
      | (with_reducible exact LeO.none _)
      | (with_reducible refine LeO.ite ?_ ?_)
      | (with_reducible refine LeO.bind ?_ (fun _ => ?_))
      | exact ih0 _ _ _ _
      | exact spec_TxSequence.mono _ _
      | exact LeO.none _
      | refine LeO.ite ?_ ?_
      | refine LeO.bind ?_ (fun _ => ?_)
def spec_TxColored.T6 : Bool × List (List Nat × List Nat) := (true, [([], []), ([], []), ([1], [1]), ([2], [2]), ([3], [3]), ([], []), ([5], [5]), ([4, 6], [4, 6]), ([7], [7]), ([0, 8], [0, 8]), ([9, 4, 0, 1, 2, 3, 4, 5, 6, 7, 8, 9], [0, 9])])
def spec_TxColored.B6 : List Nat := [0, 0, 2, 6, 14, 0, 32, 126, 254, 511, 1023]
theorem spec_TxColored.tab6 : rtab .any (opsOf Tryd.f11 6) = spec_TxColored.T6 := by kernel_rfl
theorem spec_TxColored.bits6 : waitsOk spec_TxColored.T6.2 spec_TxColored.B6 = true := by kernel_rfl
set_option maxHeartbeats 8000000 in
set_option maxRecDepth 100000 in
theorem spec_TxColored.calls (k : Nat) (A0 : Option Addr) (c0 : Nat) (l0 : List (S43)) (r : ByteArray) (w : World) (hT : LaidW w) (hr0 : Kd.C k43 w A0 l0.length l0) (hc0 : l0.length ≤ c0) (h : spec_TxColored.f k l0 = some r) :
    Calls Tryd.prog 11 #[.slice A0 l0.length c0] w fun e w' => e = .returned (.string r) ∧ Below w.heap.size w w' := by
  have hu43 := Tryd.underlying43
  have HR0 := Aside0.mk hr0
  have HC0 := Aside0.mk hc0
  clear hr0 hc0
  have HB := Aside0.mk (Below.refl w.heap.size w)
  have H : (spec_TxColored.l0 k (⟨#[]⟩ : ByteArray) l0 (l0.length : Int) 0) = some r := h
  clear h
  have H' := Aside0.mk H
  clear H
  go_enter Tryd.func11, Tryd.ntmps11
  go_wp2
  go_loopg [3, 8] k (fun kq v3 v8 w' => ∃ (x3_1 : ByteArray) (x8_1 : Int), v3 = .string x3_1 ∧ v8 = .int .i64 x8_1 ∧ Aside0 (spec_TxColored.l0 kq x3_1 l0 (l0.length : Int) x8_1 = some r) ∧ Aside0 (kq ≤ k) ∧ Aside0 (Below w.heap.size w w'))
  case atStart => exact ⟨((⟨#[]⟩ : ByteArray)), (0), (by first | rfl | (simp; done) | (simp [*]; done)), (by first | rfl | (simp; done) | (simp [*]; done)), H', ⟨Nat.le_refl _⟩, ⟨by repeat (first | (with_reducible first | exact HB.out | apply below_alloc | apply pw_below_drewN | apply below_drew1) | exact HB.out)⟩⟩
  case round =>
    clear H'
    try clear c1
    obtain ⟨x3_1, x8_1, rfl, rfl, HA, HK1, HB⟩ := hrel
    cases gk with
    | zero => exact absurd HA.out (by simp [spec_TxColored.l0])
    | succ k1 =>
      have H := HA.out
      clear HA
      simp only [spec_TxColored.l0] at H
      by_cases c2 : x8_1 < (l0.length : Int)
      · rw [if_pos c2] at H
        have c2b0 : decide (x8_1 < (l0.length : Int)) = true := decide_eq_true c2
        clear c2
        by_cases c3 : 0 ≤ x8_1
        · rw [if_pos c3] at H
          have c3b0 : decide (0 ≤ x8_1) = true := decide_eq_true c3
          clear c3
          by_cases c4 : x8_1 < (l0.length : Int)
          · rw [if_pos c4] at H
            have c4b0 : decide (x8_1 < (l0.length : Int)) = true := decide_eq_true c4
            clear c4
            by_cases c5 : ((rd_T43 l0 x8_1).f0) > 0
            · rw [if_pos c5] at H
              have c5b0 : decide (0 < ((rd_T43 l0 x8_1).f0)) = true := decide_eq_true c5
              clear c5
              obtain ⟨y123, hy123⟩ : ∃ y_ : List Int, y_ = (([(rd_T43 l0 x8_1).f0] : List Int)) := ⟨_, rfl⟩
              replace H : ((spec_TxSequence.f k1 y123).bind fun t126 => (if t126.size + ((rd_T43 l0 x8_1).f1).size ≤ 9223372036854775807 then (if (t126 ++ ((rd_T43 l0 x8_1).f1)).size + 4 ≤ 9223372036854775807 then (if x3_1.size + ((t126 ++ ((rd_T43 l0 x8_1).f1)) ++ (⟨#[27, 91, 48, 109]⟩ : ByteArray)).size ≤ 9223372036854775807 then (spec_TxColored.l0 k1 (x3_1 ++ ((t126 ++ ((rd_T43 l0 x8_1).f1)) ++ (⟨#[27, 91, 48, 109]⟩ : ByteArray))) l0 (l0.length : Int) (wrap64 (x8_1 + 1))) else (none)) else (none)) else (none))) = some r := by first | (rw [hy123]; with_reducible exact H) | (have H2_ := (Option.bind_some _ _).symm.trans H; rw [hy123]; with_reducible exact H2_) | (have H2_ := (Option.bind_some _ _).symm.trans H; with_reducible exact H2_) | with_reducible exact H | (rw [hy123]; exact H) | exact H
              have Ny123 := Aside0.mk hy123
              clear hy123
              replace H := Option.bind_eq_some_iff.mp H
              obtain ⟨t126, A60, H⟩ := H
              replace H : (if t126.size + ((rd_T43 l0 x8_1).f1).size ≤ 9223372036854775807 then (if (t126 ++ ((rd_T43 l0 x8_1).f1)).size + 4 ≤ 9223372036854775807 then (if x3_1.size + ((t126 ++ ((rd_T43 l0 x8_1).f1)) ++ (⟨#[27, 91, 48, 109]⟩ : ByteArray)).size ≤ 9223372036854775807 then (spec_TxColored.l0 k1 (x3_1 ++ ((t126 ++ ((rd_T43 l0 x8_1).f1)) ++ (⟨#[27, 91, 48, 109]⟩ : ByteArray))) l0 (l0.length : Int) (wrap64 (x8_1 + 1))) else (none)) else (none)) else (none)) = some r := H
              have A6 := Aside0.mk A60
              clear A60
              by_cases c7 : t126.size + ((rd_T43 l0 x8_1).f1).size ≤ 9223372036854775807
              · rw [if_pos c7] at H
                have c7b0 := eq_true c7
                have c7b1 : decide (t126.size + ((rd_T43 l0 x8_1).f1).size ≤ 9223372036854775807) = true := decide_eq_true c7
                try have c7b2 : (9223372036854775807 < t126.size + ((rd_T43 l0 x8_1).f1).size) = False := eq_false (Nat.not_lt.2 c7)
                by_cases c8 : (t126 ++ ((rd_T43 l0 x8_1).f1)).size + 4 ≤ 9223372036854775807
                · rw [if_pos c8] at H
                  have c8b0 := eq_true c8
                  have c8b1 : decide ((t126 ++ ((rd_T43 l0 x8_1).f1)).size + 4 ≤ 9223372036854775807) = true := decide_eq_true c8
                  try have c8b2 : (9223372036854775807 < (t126 ++ ((rd_T43 l0 x8_1).f1)).size + 4) = False := eq_false (Nat.not_lt.2 c8)
                  try have c8b3 : (9223372036854775807 < t126.size + ((rd_T43 l0 x8_1).f1).size + 4) = False := eq_false (Nat.not_lt.2 (by have z_ := c8; simp only [ByteArray.size_append] at z_; exact z_))
                  by_cases c9 : x3_1.size + ((t126 ++ ((rd_T43 l0 x8_1).f1)) ++ (⟨#[27, 91, 48, 109]⟩ : ByteArray)).size ≤ 9223372036854775807
                  · rw [if_pos c9] at H
                    have c9b0 := eq_true c9
                    have c9b1 : decide (x3_1.size + ((t126 ++ ((rd_T43 l0 x8_1).f1)) ++ (⟨#[27, 91, 48, 109]⟩ : ByteArray)).size ≤ 9223372036854775807) = true := decide_eq_true c9
                    try have c9b2 : (9223372036854775807 < x3_1.size + ((t126 ++ ((rd_T43 l0 x8_1).f1)) ++ (⟨#[27, 91, 48, 109]⟩ : ByteArray)).size) = False := eq_false (Nat.not_lt.2 c9)
                    try have c9b3 : (9223372036854775807 < x3_1.size + (t126.size + ((rd_T43 l0 x8_1).f1).size + 4)) = False := eq_false (Nat.not_lt.2 (by have z_ := c9; simp only [ByteArray.size_append] at z_; exact z_))
                    have H' := Aside0.mk H
                    clear H
                    have p121 : 0 ≤ (x8_1 : Int) := of_decide_eq_true (by first | (with_reducible assumption) | assumption)
                    have q121 : x8_1 < (l0.length : Int) := of_decide_eq_true (by first | (with_reducible assumption) | assumption)
                    obtain ⟨ad121, e121, hx121_0, hx121_1⟩ := at_T43 HR0.out x8_1 p121 q121
                    cases e121
                    replace hx121_0 := (HB.out.cell (World.block_lt_of_cell? w _ hx121_0)).trans hx121_0
                    replace hx121_1 := (HB.out.cell (World.block_lt_of_cell? w _ hx121_1)).trans hx121_1
                    (try simp only [Go.IntWalk.toNatUp] at hx121_0)
                    (try simp only [Go.IntWalk.toNatUp] at hx121_1)
                    replace p121 := eq_true p121
                    replace q121 := eq_true q121
                    try go_wp2_with (first | ((with_reducible refine gate_dst (N := 5) rfl ?_); refine box_event ?hg (N := 5) ?hd (cs := #[.int .i64 0, .string (⟨#[]⟩ : ByteArray)]) (t := 43) ?hr ?_; (case hd => rfl); (case hg => rfl); (case hr => first | (go_simp; done) | (go_simp; rfl)); intro gb122 hg w10 hbox hb; have n0_ := Aside0.mk (below_step (by repeat (first | (with_reducible first | exact HB.out | apply below_alloc | apply pw_below_drewN | apply below_drew1) | exact HB.out)) hb); have n1_ := Aside0.mk (hbox); have n2_ := Aside0.mk ((by rw [hg]; exact (below_size (by repeat (first | (with_reducible first | exact HB.out | apply below_alloc | apply pw_below_drewN | apply below_drew1) | exact HB.out))) : w.heap.size ≤ gb122)); have n3_ := Aside0.mk ((by rw [hg]; exact (below_size (by repeat (first | (with_reducible first | exact HB.out | apply below_alloc | apply pw_below_drewN | apply below_drew1) | exact HB.out))) : w.heap.size ≤ gb122)); clear HB; have HB := n0_; have BK122 := n1_; have GW122 := n2_; have GE122 := n3_; clear n0_ n1_ n2_ n3_; clear hb hbox hg; have hcz11_0 : w10.cell? ⟨gb122, 0, none⟩ = some (.int .i64 0) := (blk_cell BK122.out 0).trans rfl; have hcz11_1 : w10.cell? ⟨gb122, 1, none⟩ = some (.string (⟨#[]⟩ : ByteArray)) := (blk_cell BK122.out 1).trans rfl; have hfz11_0 := blk_frozen BK122.out 0; have hfz11_1 := blk_frozen BK122.out 1))
                    have n0_ : Aside0 (((w10.setCell ⟨gb122, 0, none⟩ (.int .i64 ((rd_T43 l0 x8_1).f0))).setCell ⟨gb122, 1, none⟩ (.string ((rd_T43 l0 x8_1).f1))).heap[gb122]? = some (.cells #[.int .i64 ((rd_T43 l0 x8_1).f0), .string ((rd_T43 l0 x8_1).f1)] 43 (0, 0))) := ⟨by (with_reducible repeat (first | refine blk_drewN ?_ _ | refine blk_drew ?_ | refine blk_alloc ?_ _)); refine blk_put (cs := #[.int .i64 ((rd_T43 l0 x8_1).f0), .string (⟨#[]⟩ : ByteArray)]) ?_ 1 _ rfl; (with_reducible repeat (first | refine blk_drewN ?_ _ | refine blk_drew ?_ | refine blk_alloc ?_ _)); refine blk_put (cs := #[.int .i64 0, .string (⟨#[]⟩ : ByteArray)]) ?_ 0 _ rfl; (with_reducible repeat (first | refine blk_drewN ?_ _ | refine blk_drew ?_ | refine blk_alloc ?_ _)); exact BK122.out⟩
                    have n1_ : Aside0 (Below w.heap.size w ((w10.setCell ⟨gb122, 0, none⟩ (.int .i64 ((rd_T43 l0 x8_1).f0))).setCell ⟨gb122, 1, none⟩ (.string ((rd_T43 l0 x8_1).f1)))) := ⟨by repeat (first | (with_reducible first | exact HB.out | apply below_alloc | apply pw_below_drewN | apply below_drew1 | refine below_set ?_ GE122.out) | exact HB.out)⟩
                    (try clear BK122)
                    (try clear HB)
                    generalize ((w10.setCell ⟨gb122, 0, none⟩ (.int .i64 ((rd_T43 l0 x8_1).f0))).setCell ⟨gb122, 1, none⟩ (.string ((rd_T43 l0 x8_1).f1))) = w12 at n0_ n1_ ⊢
                    have BK122 := n0_
                    have HB := n1_
                    clear n0_ n1_
                    have n0_ := Aside0.mk (blk_drew BK122.out)
                    have n1_ := Aside0.mk (below_drew1 HB.out)
                    clear BK122
                    clear HB
                    have BK122 := n0_
                    have HB := n1_
                    clear n0_ n1_
                    refine start_ (n := 11) (S := fun w' => w'.cell? ⟨gb122, 0, none⟩ = some (.int .i64 ((rd_T43 l0 x8_1).f0)) ∧ w'.cell? ⟨gb122, 1, none⟩ = some (.string ((rd_T43 l0 x8_1).f1))) (ds := []) #[false, false, false, false, false, false, false, false, false, false, false] (by kernel_rfl) rfl rfl ⟨(blk_cell BK122.out 0).trans rfl, (blk_cell BK122.out 1).trans rfl⟩ (fun hHeld => ?_); refine with_tabW spec_TxColored.tab6 spec_TxColored.bits6 (fun HT_ HW_ => ?_)
                    generalize w12.drew = w13 at BK122 HB hHeld ⊢
                    refine pure_ (i := 0) (N := some 15) (v := ?_) (a' := ?_) #[true, false, false, false, false, false, false, false, false, false, false] rfl rfl (any_of HT_.out (by kernel_rfl)) (fun _ _ _ h => h) (Or.inl ⟨by rfl, ?_⟩) ?_ ?_
                    rotate_left
                    · intro w'
                      go_simp
                      with_reducible rfl
                    rotate_left
                    · simp only [Act.put, List.setIfInBounds_toArray, List.set_cons_zero, List.set_cons_succ, i64_w, i32_w]
                      rfl
                    refine pure_ (i := 1) (N := some 16) (v := ?_) (a' := ?_) #[true, true, false, false, false, false, false, false, false, false, false] rfl rfl (any_of HT_.out (by kernel_rfl)) (fun _ _ _ h => h) (Or.inl ⟨by rfl, ?_⟩) ?_ ?_
                    rotate_left
                    · intro w'
                      go_simp
                      with_reducible rfl
                    rotate_left
                    · simp only [Act.put, List.setIfInBounds_toArray, List.set_cons_zero, List.set_cons_succ, i64_w, i32_w]
                      rfl
                    refine pure_ (i := 5) (N := some 20) (v := ?_) (a' := ?_) #[true, true, false, false, false, true, false, false, false, false, false] rfl rfl (any_of HT_.out (by kernel_rfl)) (fun _ _ _ h => h) (Or.inl ⟨by rfl, ?_⟩) ?_ ?_
                    rotate_left
                    · intro w'
                      go_simp
                      with_reducible rfl
                    rotate_left
                    · simp only [Act.put, List.setIfInBounds_toArray, List.set_cons_zero, List.set_cons_succ, i64_w, i32_w]
                      rfl
                    refine take_ (i := 2) (N := some 17) (v := ?_) (a' := ?_) #[true, true, true, false, false, true, false, false, false, false, false] rfl rfl (take_ofW HT_.out HW_.out (by kernel_rfl)) (fun _ _ _ h => h) (Or.inl ⟨by rfl, ?_⟩) hHeld ?_ ?_
                    rotate_left
                    · rintro w' ⟨s0, s1⟩
                      go_simp
                      with_reducible rfl
                    rotate_left
                    · simp only [Act.put, List.setIfInBounds_toArray, List.set_cons_zero, List.set_cons_succ, i64_w, i32_w]
                      rfl
                    refine take_ (i := 6) (N := some 21) (v := ?_) (a' := ?_) #[true, true, true, false, false, true, true, false, false, false, false] rfl rfl (take_ofW HT_.out HW_.out (by kernel_rfl)) (fun _ _ _ h => h) (Or.inl ⟨by rfl, ?_⟩) hHeld ?_ ?_
                    rotate_left
                    · rintro w' ⟨s0, s1⟩
                      go_simp
                      with_reducible rfl
                    rotate_left
                    · simp only [Act.put, List.setIfInBounds_toArray, List.set_cons_zero, List.set_cons_succ, i64_w, i32_w]
                      rfl
                    refine one_ (i := 3) (N := some 18) #[true, true, true, true, false, true, true, false, false, false, false] rfl rfl (one_of HT_.out (by kernel_rfl)) (by decide) (fun K hK => ?_)
                    refine Kd.R_lit_step (Kd.int .i64) _ 3 ?hg (N := 18) ?hd (xs := ([(rd_T43 l0 x8_1).f0] : List Int)) (inner := [.int .i64 ((rd_T43 l0 x8_1).f0)]) (ok := fun _ => True) (okp := fun _ => True) ?hr ?hp (fun _ hk => hk) trivial (Below.refl _ _) (Nat.le_refl _) (by simp) ?_; (case hd => rfl); (case hg => rfl); (case hr => first | (go_simp; done) | (go_simp; rfl)); (case hp => exact (Reps.one (show Kd.M (Kd.int .i64) _ _ _ ((rd_T43 l0 x8_1).f0) [.int .i64 ((rd_T43 l0 x8_1).f0)] from rfl) (Reps.none _ _)))
                    intro v124 w14 ho15 hb hg_ hnew_
                    clear hg_ hnew_
                    (first | rw [← Ny123.out] at ho15 | (simp only [Int.reduceToNat] at ho15; rw [← Ny123.out] at ho15))
                    have n0_ := Aside0.mk (Kd.R_lower ho15 (below_size (by repeat (first | (with_reducible first | exact HB.out | apply below_alloc | apply pw_below_drewN | apply below_drew1 | refine below_set ?_ GE122.out) | exact HB.out))))
                    have n1_ := Aside0.mk (blk_below (g := gb122) (o := .cells #[.int .i64 ((rd_T43 l0 x8_1).f0), .string ((rd_T43 l0 x8_1).f1)] 43 (0, 0)) (by (with_reducible repeat (first | refine blk_drewN ?_ _ | refine blk_drew ?_ | refine blk_alloc ?_ _)); exact BK122.out) hb)
                    have n2_ := Aside0.mk (below_step (by repeat (first | (with_reducible first | exact HB.out | apply below_alloc | apply pw_below_drewN | apply below_drew1 | refine below_set ?_ GE122.out) | exact HB.out)) hb)
                    clear BK122
                    clear HB
                    have HO125 := n0_
                    have BK122 := n1_
                    have HB := n2_
                    clear n0_ n1_ n2_
                    clear hb ho15
                    obtain ⟨Ao16, co16, eo16⟩ := Kd.R_slice HO125.out
                    (first | subst eo16 | (injection eo16 with f1_ f2_ f3_; have f4_ := f1_.symm; have f5_ := f3_.symm; clear f1_ f2_ f3_; subst f4_; subst f5_))
                    refine hK.out _ _ ⟨(blk_cell BK122.out 0).trans rfl, (blk_cell BK122.out 1).trans rfl⟩ (fun hHeld => ?_)
                    clear hK K
                    refine norm_ (a' := ?_) ?_ ?_
                    rotate_left
                    · show Act.put _ (some 18) _ = _
                      simp only [Act.put, List.setIfInBounds_toArray, List.set_cons_zero, List.set_cons_succ, i64_w, i32_w]
                      rfl
                    refine one_ (i := 4) (N := some 19) #[true, true, true, true, true, true, true, false, false, false, false] rfl rfl (one_of HT_.out (by kernel_rfl)) (by decide) (fun K hK => ?_)
                    refine goes_ Tryd.func9 (by kernel_rfl) rfl #[.slice Ao16 y123.length co16] (by rfl) rfl rfl (by (try simp only [List.map_toArray, List.map_cons, List.map_nil]); first | done | rfl | (simp only [List.length_drop, List.length_take]; rfl)) ?_
                    with_reducible refine (spec_TxSequence.calls k1 _ _ y123 t126 _ ?side1 ?side2 ?side3 A6.out).mono ?_
                    (case side1 => exact LaidW.on hT (by repeat (first | (with_reducible first | exact HB.out | apply below_alloc | apply pw_below_drewN | apply below_drew1 | refine below_set ?_ GE122.out) | exact HB.out)))
                    (case side2 => repeat (first | exact (Kd.R_reads' HO125.out).2.2 | (with_reducible refine Kd.C_alloc ?_ _) | (with_reducible refine Kd.C_drewN ?_ _) | (with_reducible refine Kd.C_drew ?_)))
                    (case side3 => exact (Kd.R_reads' HO125.out).2.1)
                    rintro e w17 ⟨rfl, hb⟩
                    refine ⟨_, rfl, ?_⟩
                    have n0_ := Aside0.mk (Kd.R_below (by (with_reducible repeat (first | apply Kd.R_alloc | apply Kd.R_drewN | apply Kd.R_drew)); exact HO125.out) hb)
                    have n1_ := Aside0.mk (blk_below (g := gb122) (o := .cells #[.int .i64 ((rd_T43 l0 x8_1).f0), .string ((rd_T43 l0 x8_1).f1)] 43 (0, 0)) (by (with_reducible repeat (first | refine blk_drewN ?_ _ | refine blk_drew ?_ | refine blk_alloc ?_ _)); exact BK122.out) hb)
                    have n2_ := Aside0.mk (below_step (by repeat (first | (with_reducible first | exact HB.out | apply below_alloc | apply pw_below_drewN | apply below_drew1 | refine below_set ?_ GE122.out) | exact HB.out)) hb)
                    clear HO125
                    clear BK122
                    clear HB
                    have HO125 := n0_
                    have BK122 := n1_
                    have HB := n2_
                    clear n0_ n1_ n2_
                    (try clear hb)
                    (try clear hb2)
                    (try clear hk)
                    (try clear hi)
                    refine hK.out _ _ ⟨(blk_cell BK122.out 0).trans rfl, (blk_cell BK122.out 1).trans rfl⟩ (fun hHeld => ?_)
                    clear hK K
                    refine norm_ (a' := ?_) ?_ ?_
                    rotate_left
                    · show Act.put _ (some 19) _ = _
                      simp only [Act.put, List.setIfInBounds_toArray, List.set_cons_zero, List.set_cons_succ, i64_w, i32_w]
                      rfl
                    refine pure_ (i := 7) (N := some 22) (v := ?_) (a' := ?_) #[true, true, true, true, true, true, true, true, false, false, false] rfl rfl (any_of HT_.out (by kernel_rfl)) (fun _ _ _ h => h) (Or.inl ⟨by rfl, ?_⟩) ?_ ?_
                    rotate_left
                    · intro w'
                      go_simp
                      with_reducible rfl
                    rotate_left
                    · simp only [Act.put, List.setIfInBounds_toArray, List.set_cons_zero, List.set_cons_succ, i64_w, i32_w]
                      rfl
                    refine pure_ (i := 8) (N := some 23) (v := ?_) (a' := ?_) #[true, true, true, true, true, true, true, true, true, false, false] rfl rfl (any_of HT_.out (by kernel_rfl)) (fun _ _ _ h => h) (Or.inl ⟨by rfl, ?_⟩) ?_ ?_
                    rotate_left
                    · intro w'
                      go_simp
                      with_reducible rfl
                    rotate_left
                    · simp only [Act.put, List.setIfInBounds_toArray, List.set_cons_zero, List.set_cons_succ, i64_w, i32_w]
                      rfl
                    refine pure_ (i := 9) (N := some 24) (v := ?_) (a' := ?_) #[true, true, true, true, true, true, true, true, true, true, false] rfl rfl (any_of HT_.out (by kernel_rfl)) (fun _ _ _ h => h) (Or.inl ⟨by rfl, ?_⟩) ?_ ?_
                    rotate_left
                    · intro w'
                      go_simp
                      with_reducible rfl
                    rotate_left
                    · simp only [Act.put, List.setIfInBounds_toArray, List.set_cons_zero, List.set_cons_succ, i64_w, i32_w]
                      rfl
                    refine pure_ (i := 10) (N := some 3) (v := ?_) (a' := ?_) #[true, true, true, true, true, true, true, true, true, true, true] rfl rfl (any_of HT_.out (by kernel_rfl)) (fun _ _ _ h => h) (Or.inl ⟨by rfl, ?_⟩) ?_ ?_
                    rotate_left
                    · intro w'
                      go_simp
                      with_reducible rfl
                    rotate_left
                    · simp only [Act.put, List.setIfInBounds_toArray, List.set_cons_zero, List.set_cons_succ, i64_w, i32_w]
                      rfl
                    refine done_ (done_of HT_.out (by kernel_rfl)) ?_
                    try go_wp2
                    go_roundg k1
                    case measure => have := HK1.out; omega
                    case rel => exact ⟨(x3_1 ++ ((t126 ++ ((rd_T43 l0 x8_1).f1)) ++ (⟨#[27, 91, 48, 109]⟩ : ByteArray))), (wrap64 (x8_1 + 1)), (by first | rfl | (simp; done) | (simp [*]; done)), (by first | rfl | (simp; done) | (simp [*]; done)), H', ⟨by have := HK1.out; omega⟩, ⟨by repeat (first | (with_reducible first | exact HB.out | apply below_alloc | apply pw_below_drewN | apply below_drew1 | refine below_set ?_ GE122.out) | exact HB.out)⟩⟩
                  · rw [if_neg c9] at H
                    exact absurd H (by simp)
                · rw [if_neg c8] at H
                  exact absurd H (by simp)
              · rw [if_neg c7] at H
                exact absurd H (by simp)
            · rw [if_neg c5] at H
              have c5b0 : decide (0 < ((rd_T43 l0 x8_1).f0)) = false := decide_eq_false c5
              clear c5
              by_cases c18 : x3_1.size + ((rd_T43 l0 x8_1).f1).size ≤ 9223372036854775807
              · rw [if_pos c18] at H
                have c18b0 := eq_true c18
                have c18b1 : decide (x3_1.size + ((rd_T43 l0 x8_1).f1).size ≤ 9223372036854775807) = true := decide_eq_true c18
                try have c18b2 : (9223372036854775807 < x3_1.size + ((rd_T43 l0 x8_1).f1).size) = False := eq_false (Nat.not_lt.2 c18)
                have H' := Aside0.mk H
                clear H
                have p121 : 0 ≤ (x8_1 : Int) := of_decide_eq_true (by first | (with_reducible assumption) | assumption)
                have q121 : x8_1 < (l0.length : Int) := of_decide_eq_true (by first | (with_reducible assumption) | assumption)
                obtain ⟨ad121, e121, hx121_0, hx121_1⟩ := at_T43 HR0.out x8_1 p121 q121
                cases e121
                replace hx121_0 := (HB.out.cell (World.block_lt_of_cell? w _ hx121_0)).trans hx121_0
                replace hx121_1 := (HB.out.cell (World.block_lt_of_cell? w _ hx121_1)).trans hx121_1
                (try simp only [Go.IntWalk.toNatUp] at hx121_0)
                (try simp only [Go.IntWalk.toNatUp] at hx121_1)
                replace p121 := eq_true p121
                replace q121 := eq_true q121
                go_wp2_with (first | ((with_reducible refine gate_dst (N := 5) rfl ?_); refine box_event ?hg (N := 5) ?hd (cs := #[.int .i64 0, .string (⟨#[]⟩ : ByteArray)]) (t := 43) ?hr ?_; (case hd => rfl); (case hg => rfl); (case hr => first | (go_simp; done) | (go_simp; rfl)); intro gb122 hg w19 hbox hb; have n0_ := Aside0.mk (below_step (by repeat (first | (with_reducible first | exact HB.out | apply below_alloc | apply pw_below_drewN | apply below_drew1) | exact HB.out)) hb); have n1_ := Aside0.mk (hbox); have n2_ := Aside0.mk ((by rw [hg]; exact (below_size (by repeat (first | (with_reducible first | exact HB.out | apply below_alloc | apply pw_below_drewN | apply below_drew1) | exact HB.out))) : w.heap.size ≤ gb122)); have n3_ := Aside0.mk ((by rw [hg]; exact (below_size (by repeat (first | (with_reducible first | exact HB.out | apply below_alloc | apply pw_below_drewN | apply below_drew1) | exact HB.out))) : w.heap.size ≤ gb122)); clear HB; have HB := n0_; have BK122 := n1_; have GW122 := n2_; have GE122 := n3_; clear n0_ n1_ n2_ n3_; clear hb hbox hg; have hcz20_0 : w19.cell? ⟨gb122, 0, none⟩ = some (.int .i64 0) := (blk_cell BK122.out 0).trans rfl; have hcz20_1 : w19.cell? ⟨gb122, 1, none⟩ = some (.string (⟨#[]⟩ : ByteArray)) := (blk_cell BK122.out 1).trans rfl; have hfz20_0 := blk_frozen BK122.out 0; have hfz20_1 := blk_frozen BK122.out 1))
                go_roundg k1
                case measure => have := HK1.out; omega
                case rel => exact ⟨(x3_1 ++ ((rd_T43 l0 x8_1).f1)), (wrap64 (x8_1 + 1)), (by first | rfl | (simp; done) | (simp [*]; done)), (by first | rfl | (simp; done) | (simp [*]; done)), H', ⟨by have := HK1.out; omega⟩, ⟨by repeat (first | (with_reducible first | exact HB.out | apply below_alloc | apply pw_below_drewN | apply below_drew1 | refine below_set ?_ GE122.out) | exact HB.out)⟩⟩
              · rw [if_neg c18] at H
                exact absurd H (by simp)
          · rw [if_neg c4] at H
            exact absurd H (by simp)
        · rw [if_neg c3] at H
          exact absurd H (by simp)
      · rw [if_neg c2] at H
        have c2b0 : decide (x8_1 < (l0.length : Int)) = false := decide_eq_false c2
        clear c2
        obtain rfl := Option.some.inj H
        go_wp2
        go_ret
        exact ⟨by first | rfl | (simp [errW_none, errW_some] <;> rfl) | (simp [*, errW_none, errW_some] <;> rfl), by repeat (first | (with_reducible first | exact HB.out | apply below_alloc | apply pw_below_drewN | apply below_drew1) | exact HB.out)⟩

end Go.Proofs.YthepbgakfkiliaaRDoor.PFnTextEscape
