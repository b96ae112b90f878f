-- Written by hprint.py, a program of this session
import Derived.Test.YtimefacdnabkdabDoorPFnTextColorSeqx0
import Derived.Test.YtimefacdnabkdabDoorPFnTextColorSeqx1
namespace Go.Proofs.YtimefacdnabkdabDoor.PFnTextColorSeq
open Go.RowKit Go.Proofs.YtimefacdnabkdabDoor.Hand Go.Proofs.YtimefacdnabkdabDoorW.PrintWords Go.Proofs.YtimefacdnabkdabDoorW.PrintLast Go.Proofs.YtimefacdnabkdabDoorW.PrintMore
attribute [local go_sem] max2_int min2_int max_two min_two max_three min_three max_four min_four   -- for this text's walks alone
set_option linter.unusedVariables false
set_option linter.unusedSimpArgs false

/-! ### impl_TextColorSeq: function 5 -/
def impl_TextColorSeq.f (k : Nat) (a0 : Int) : Option (ByteArray) := (text_Color_EscapeSeq.f k a0).bind fun t107 => (some t107)
theorem impl_TextColorSeq.mono : ∀ a0 k, LeO (impl_TextColorSeq.f k a0) (impl_TextColorSeq.f (k + 1) a0) := by
  intro a0 k
  unfold impl_TextColorSeq.f
  repeat' first
      | (with_reducible exact text_Color_EscapeSeq.mono _ _)
      | (with_reducible exact LeO.refl _)
      | (with_reducible exact LeO.none _)
      | (with_reducible refine LeO.ite ?_ ?_)
      | (with_reducible refine LeO.bind ?_ (fun _ => ?_))
      | exact text_Color_EscapeSeq.mono _ _
      | exact LeO.none _
      | refine LeO.ite ?_ ?_
      | refine LeO.bind ?_ (fun _ => ?_)
set_option maxHeartbeats 8000000 in
set_option maxRecDepth 100000 in
theorem impl_TextColorSeq.calls (k : Nat) (a0 : Int) (r : ByteArray) (w : World) (h : impl_TextColorSeq.f k a0 = some r) :
    Calls Tryd.prog 5 #[.int .i64 a0] w fun e w' => e = .returned (.string r) ∧ Below w.heap.size w w' := by
  have HB := Aside0.mk (Below.refl w.heap.size w)
  have H : ((text_Color_EscapeSeq.f k a0).bind fun t107 => (some t107)) = some r := h
  clear h
  replace H := Option.bind_eq_some_iff.mp H
  obtain ⟨t107, A20, H⟩ := H
  replace H : (some t107) = some r := H
  have A2 := Aside0.mk A20
  clear A20
  obtain rfl := Option.some.inj H
  go_enter Tryd.func5, Tryd.ntmps5
  go_wp2_with (first | ((with_reducible refine gate_callee (f := 7) rfl ?_); refine goesL_ (some 4) rfl rfl Tryd.func7 (by kernel_rfl) rfl #[.int .i64 a0] rfl (by (try simp only [List.map_toArray, List.map_cons, List.map_nil]); first | done | rfl | (simp only [List.length_drop, List.length_take]; rfl)) ?_; (with_reducible refine (text_Color_EscapeSeq.calls k a0 t107 _ A2.out).mono ?_); rintro e w3 ⟨rfl, hb⟩; refine ⟨_, rfl, ?_⟩; have n0_ := Aside0.mk (below_step (by repeat (first | (with_reducible first | exact HB.out | apply below_alloc | apply pw_below_drewN | apply below_drew1) | exact HB.out)) hb); clear HB; have HB := n0_; clear n0_; (try clear hb); (try clear hb2); (try clear hk); (try clear hi)))
  go_ret
  exact ⟨by first | rfl | (simp [errW_none, errW_some] <;> rfl) | (simp [*, errW_none, errW_some] <;> rfl), by repeat (first | (with_reducible first | exact HB.out | apply below_alloc | apply pw_below_drewN | apply below_drew1) | exact HB.out)⟩

-- BY HAND: function 8 (strconv_Itoa)

/-! ### spec_TxSequence: function 6 -/
def spec_TxSequence.l0 : Nat → ByteArray → List Int → Int → Int → Option (ByteArray)
  | 0, _, _, _, _ => none
  | k + 1, x3, x9, x10, x11 => if x11 < x10 then (if 0 ≤ x11 then (if x11 < (x9.length : Int) then (if x11 > 0 then (if x3.size + 1 ≤ 9223372036854775807 then ((strconv_Itoa.f (rd x9 x11)).bind fun t109 => (if (x3 ++ (⟨#[59]⟩ : ByteArray)).size + t109.size ≤ 9223372036854775807 then (spec_TxSequence.l0 k ((x3 ++ (⟨#[59]⟩ : ByteArray)) ++ t109) x9 x10 (wrap64 (x11 + 1))) else (none))) else (none)) else ((strconv_Itoa.f (rd x9 x11)).bind fun t110 => (if x3.size + t110.size ≤ 9223372036854775807 then (spec_TxSequence.l0 k (x3 ++ t110) x9 x10 (wrap64 (x11 + 1))) else (none)))) else (none)) else (none)) else (if x3.size + 1 ≤ 9223372036854775807 then (some (x3 ++ (⟨#[109]⟩ : ByteArray))) else (none))
def spec_TxSequence.f (k : Nat) (l0 : List Int) : Option (ByteArray) := if (l0.length : Int) = 0 then (some (⟨#[]⟩ : ByteArray)) else (spec_TxSequence.l0 k (⟨#[27, 91]⟩ : ByteArray) l0 (l0.length : Int) 0)
theorem spec_TxSequence.mono_l : ∀ k, (∀ y0 y1 y2 y3, LeO (spec_TxSequence.l0 k y0 y1 y2 y3) (spec_TxSequence.l0 (k + 1) y0 y1 y2 y3))
  | 0 => fun _ _ _ _ r h => by simp [spec_TxSequence.l0] at h
  | k + 1 => by
    have ih0 := spec_TxSequence.mono_l k
    · intro y0 y1 y2 y3
      unfold spec_TxSequence.l0
      repeat' first
      | (with_reducible exact ih0 _ _ _ _)
      | (with_reducible exact LeO.refl _)
      | (with_reducible exact LeO.none _)
      | (with_reducible refine LeO.ite ?_ ?_)
      | (with_reducible refine LeO.bind ?_ (fun _ => ?_))
      | exact ih0 _ _ _ _
      | exact LeO.none _
      | refine LeO.ite ?_ ?_
      | refine LeO.bind ?_ (fun _ => ?_)
theorem spec_TxSequence.mono : ∀ a0 k, LeO (spec_TxSequence.f k a0) (spec_TxSequence.f (k + 1) a0) := by
  intro a0 k
  have ih0 := spec_TxSequence.mono_l k
  unfold spec_TxSequence.f
  repeat' first
      | (with_reducible exact ih0 _ _ _ _)
      | (with_reducible exact LeO.refl _)
      | (with_reducible exact LeO.none _)
      | (with_reducible refine LeO.ite ?_ ?_)
      | (with_reducible refine LeO.bind ?_ (fun _ => ?_))
      | exact ih0 _ _ _ _
      | exact LeO.none _
      | refine LeO.ite ?_ ?_
      | refine LeO.bind ?_ (fun _ => ?_)
set_option maxHeartbeats 8000000 in
set_option maxRecDepth 100000 in
theorem spec_TxSequence.calls (k : Nat) (A0 : Option Addr) (c0 : Nat) (l0 : List Int) (r : ByteArray) (w : World) (hT : LaidW w) (hr0 : Kd.C (Kd.int .i64) w A0 l0.length l0) (hc0 : l0.length ≤ c0) (h : spec_TxSequence.f k l0 = some r) :
    Calls Tryd.prog 6 #[.slice A0 l0.length c0] w fun e w' => e = .returned (.string r) ∧ Below w.heap.size w w' := by
  have HR0 := Aside0.mk hr0
  have HC0 := Aside0.mk hc0
  clear hr0 hc0
  have HB := Aside0.mk (Below.refl w.heap.size w)
  have H : (if (l0.length : Int) = 0 then (some (⟨#[]⟩ : ByteArray)) else (spec_TxSequence.l0 k (⟨#[27, 91]⟩ : ByteArray) l0 (l0.length : Int) 0)) = some r := h
  clear h
  by_cases c2 : (l0.length : Int) = 0
  · rw [if_pos c2] at H
    have c2b0 : ((l0.length : Int) == 0) = true := beq_iff_eq.mpr c2
    have c2b1 : ((l0.length : Int) != 0) = false := bne_eq_false_iff_eq.mpr c2
    clear c2
    obtain rfl := Option.some.inj H
    go_enter Tryd.func6, Tryd.ntmps6
    go_wp2
    go_ret
    exact ⟨by first | rfl | (simp [errW_none, errW_some] <;> rfl) | (simp [*, errW_none, errW_some] <;> rfl), by repeat (first | (with_reducible first | exact HB.out | apply below_alloc | apply pw_below_drewN | apply below_drew1) | exact HB.out)⟩
  · rw [if_neg c2] at H
    have c2b0 : ((l0.length : Int) == 0) = false := beq_eq_false_iff_ne.mpr c2
    have c2b1 : ((l0.length : Int) != 0) = true := bne_iff_ne.mpr c2
    have c2b2 : ¬ (l0 = []) := fun h_ => c2 (by rw [h_]; rfl)
    have H' := Aside0.mk H
    clear H
    go_enter Tryd.func6, Tryd.ntmps6
    go_wp2
    go_loopg [3, 11] k (fun kq v3 v11 w' => ∃ (x3_1 : ByteArray) (x11_1 : Int), v3 = .string x3_1 ∧ v11 = .int .i64 x11_1 ∧ Aside0 (spec_TxSequence.l0 kq x3_1 l0 (l0.length : Int) x11_1 = some r) ∧ Aside0 (kq ≤ k) ∧ Aside0 (Below w.heap.size w w'))
    case atStart => exact ⟨((⟨#[27, 91]⟩ : ByteArray)), (0), (by first | rfl | (simp; done) | (simp [*]; done)), (by first | rfl | (simp; done) | (simp [*]; done)), H', ⟨Nat.le_refl _⟩, ⟨by repeat (first | (with_reducible first | exact HB.out | apply below_alloc | apply pw_below_drewN | apply below_drew1) | exact HB.out)⟩⟩
    case round =>
      clear H'
      try clear c2
      try clear c2b0
      try clear c2b1
      try clear c2b2
      try clear p2
      obtain ⟨x3_1, x11_1, rfl, rfl, HA, HK1, HB⟩ := hrel
      cases gk with
      | zero => exact absurd HA.out (by simp [spec_TxSequence.l0])
      | succ k1 =>
        have H := HA.out
        clear HA
        simp only [spec_TxSequence.l0] at H
        by_cases c3 : x11_1 < (l0.length : Int)
        · rw [if_pos c3] at H
          have c3b0 : decide (x11_1 < (l0.length : Int)) = true := decide_eq_true c3
          clear c3
          by_cases c4 : 0 ≤ x11_1
          · rw [if_pos c4] at H
            have c4b0 : decide (0 ≤ x11_1) = true := decide_eq_true c4
            clear c4
            by_cases c5 : x11_1 < (l0.length : Int)
            · rw [if_pos c5] at H
              have c5b0 : decide (x11_1 < (l0.length : Int)) = true := decide_eq_true c5
              clear c5
              by_cases c6 : x11_1 > 0
              · rw [if_pos c6] at H
                have c6b0 : decide (0 < x11_1) = true := decide_eq_true c6
                clear c6
                by_cases c7 : x3_1.size + 1 ≤ 9223372036854775807
                · rw [if_pos c7] at H
                  have c7b0 := eq_true c7
                  have c7b1 : decide (x3_1.size + 1 ≤ 9223372036854775807) = true := decide_eq_true c7
                  try have c7b2 : (9223372036854775807 < x3_1.size + 1) = False := eq_false (Nat.not_lt.2 c7)
                  replace H := Option.bind_eq_some_iff.mp H
                  obtain ⟨t109, A80, H⟩ := H
                  replace H : (if (x3_1 ++ (⟨#[59]⟩ : ByteArray)).size + t109.size ≤ 9223372036854775807 then (spec_TxSequence.l0 k1 ((x3_1 ++ (⟨#[59]⟩ : ByteArray)) ++ t109) l0 (l0.length : Int) (wrap64 (x11_1 + 1))) else (none)) = some r := H
                  have A8 := Aside0.mk A80
                  clear A80
                  by_cases c9 : (x3_1 ++ (⟨#[59]⟩ : ByteArray)).size + t109.size ≤ 9223372036854775807
                  · rw [if_pos c9] at H
                    have c9b0 := eq_true c9
                    have c9b1 : decide ((x3_1 ++ (⟨#[59]⟩ : ByteArray)).size + t109.size ≤ 9223372036854775807) = true := decide_eq_true c9
                    try have c9b2 : (9223372036854775807 < (x3_1 ++ (⟨#[59]⟩ : ByteArray)).size + t109.size) = False := eq_false (Nat.not_lt.2 c9)
                    try have c9b3 : (9223372036854775807 < x3_1.size + 1 + t109.size) = False := eq_false (Nat.not_lt.2 (by have z_ := c9; simp only [ByteArray.size_append] at z_; exact z_))
                    have H' := Aside0.mk H
                    clear H
                    have p108 : 0 ≤ (x11_1 : Int) := of_decide_eq_true (by first | (with_reducible assumption) | assumption)
                    have q108 : x11_1 < (l0.length : Int) := of_decide_eq_true (by first | (with_reducible assumption) | assumption)
                    obtain ⟨ad108, e108, hx108_0⟩ := Kd.at_int HR0.out x11_1 p108 q108
                    cases e108
                    replace hx108_0 := (HB.out.cell (World.block_lt_of_cell? w _ hx108_0)).trans hx108_0
                    (try simp only [Go.IntWalk.toNatUp] at hx108_0)
                    replace p108 := eq_true p108
                    replace q108 := eq_true q108
                    go_wp2_with (first | ((with_reducible refine gate_callee (f := 8) rfl ?_); refine goesL_ (some 22) rfl rfl Tryd.func8 (by kernel_rfl) rfl #[.int .i64 (rd l0 x11_1)] rfl (by (try simp only [List.map_toArray, List.map_cons, List.map_nil]); first | done | rfl | (simp only [List.length_drop, List.length_take]; rfl)) ?_; (with_reducible refine (strconv_Itoa.calls (rd l0 x11_1) t109 _ ?side1 A8.out).mono ?_); (case side1 => exact LaidW.on hT (by repeat (first | (with_reducible first | exact HB.out | apply below_alloc | apply pw_below_drewN | apply below_drew1) | exact HB.out))); rintro e w10 ⟨rfl, hb⟩; refine ⟨_, rfl, ?_⟩; have n0_ := Aside0.mk (below_step (by repeat (first | (with_reducible first | exact HB.out | apply below_alloc | apply pw_below_drewN | apply below_drew1) | exact HB.out)) hb); clear HB; have HB := n0_; clear n0_; (try clear hb); (try clear hb2); (try clear hk); (try clear hi)))
                    go_roundg k1
                    case measure => have := HK1.out; omega
                    case rel => exact ⟨((x3_1 ++ (⟨#[59]⟩ : ByteArray)) ++ t109), (wrap64 (x11_1 + 1)), (by first | rfl | (simp; done) | (simp [*]; done)), (by first | rfl | (simp; done) | (simp [*]; done)), H', ⟨by have := HK1.out; omega⟩, ⟨by repeat (first | (with_reducible first | exact HB.out | apply below_alloc | apply pw_below_drewN | apply below_drew1) | exact HB.out)⟩⟩
                  · rw [if_neg c9] at H
                    exact absurd H (by simp)
                · rw [if_neg c7] at H
                  exact absurd H (by simp)
              · rw [if_neg c6] at H
                have c6b0 : decide (0 < x11_1) = false := decide_eq_false c6
                clear c6
                replace H := Option.bind_eq_some_iff.mp H
                obtain ⟨t110, A110, H⟩ := H
                replace H : (if x3_1.size + t110.size ≤ 9223372036854775807 then (spec_TxSequence.l0 k1 (x3_1 ++ t110) l0 (l0.length : Int) (wrap64 (x11_1 + 1))) else (none)) = some r := H
                have A11 := Aside0.mk A110
                clear A110
                by_cases c12 : x3_1.size + t110.size ≤ 9223372036854775807
                · rw [if_pos c12] at H
                  have c12b0 := eq_true c12
                  have c12b1 : decide (x3_1.size + t110.size ≤ 9223372036854775807) = true := decide_eq_true c12
                  try have c12b2 : (9223372036854775807 < x3_1.size + t110.size) = False := eq_false (Nat.not_lt.2 c12)
                  have H' := Aside0.mk H
                  clear H
                  have p108 : 0 ≤ (x11_1 : Int) := of_decide_eq_true (by first | (with_reducible assumption) | assumption)
                  have q108 : x11_1 < (l0.length : Int) := of_decide_eq_true (by first | (with_reducible assumption) | assumption)
                  obtain ⟨ad108, e108, hx108_0⟩ := Kd.at_int HR0.out x11_1 p108 q108
                  cases e108
                  replace hx108_0 := (HB.out.cell (World.block_lt_of_cell? w _ hx108_0)).trans hx108_0
                  (try simp only [Go.IntWalk.toNatUp] at hx108_0)
                  replace p108 := eq_true p108
                  replace q108 := eq_true q108
                  go_wp2_with (first | ((with_reducible refine gate_callee (f := 8) rfl ?_); refine goesL_ (some 22) rfl rfl Tryd.func8 (by kernel_rfl) rfl #[.int .i64 (rd l0 x11_1)] rfl (by (try simp only [List.map_toArray, List.map_cons, List.map_nil]); first | done | rfl | (simp only [List.length_drop, List.length_take]; rfl)) ?_; (with_reducible refine (strconv_Itoa.calls (rd l0 x11_1) t110 _ ?side1 A11.out).mono ?_); (case side1 => exact LaidW.on hT (by repeat (first | (with_reducible first | exact HB.out | apply below_alloc | apply pw_below_drewN | apply below_drew1) | exact HB.out))); rintro e w13 ⟨rfl, hb⟩; refine ⟨_, rfl, ?_⟩; have n0_ := Aside0.mk (below_step (by repeat (first | (with_reducible first | exact HB.out | apply below_alloc | apply pw_below_drewN | apply below_drew1) | exact HB.out)) hb); clear HB; have HB := n0_; clear n0_; (try clear hb); (try clear hb2); (try clear hk); (try clear hi)))
                  go_roundg k1
                  case measure => have := HK1.out; omega
                  case rel => exact ⟨(x3_1 ++ t110), (wrap64 (x11_1 + 1)), (by first | rfl | (simp; done) | (simp [*]; done)), (by first | rfl | (simp; done) | (simp [*]; done)), H', ⟨by have := HK1.out; omega⟩, ⟨by repeat (first | (with_reducible first | exact HB.out | apply below_alloc | apply pw_below_drewN | apply below_drew1) | exact HB.out)⟩⟩
                · rw [if_neg c12] at H
                  exact absurd H (by simp)
            · rw [if_neg c5] at H
              exact absurd H (by simp)
          · rw [if_neg c4] at H
            exact absurd H (by simp)
        · rw [if_neg c3] at H
          have c3b0 : decide (x11_1 < (l0.length : Int)) = false := decide_eq_false c3
          clear c3
          by_cases c14 : x3_1.size + 1 ≤ 9223372036854775807
          · rw [if_pos c14] at H
            have c14b0 := eq_true c14
            have c14b1 : decide (x3_1.size + 1 ≤ 9223372036854775807) = true := decide_eq_true c14
            try have c14b2 : (9223372036854775807 < x3_1.size + 1) = False := eq_false (Nat.not_lt.2 c14)
            obtain rfl := Option.some.inj H
            go_wp2
            go_ret
            exact ⟨by first | rfl | (simp [errW_none, errW_some] <;> rfl) | (simp [*, errW_none, errW_some] <;> rfl), by repeat (first | (with_reducible first | exact HB.out | apply below_alloc | apply pw_below_drewN | apply below_drew1) | exact HB.out)⟩
          · rw [if_neg c14] at H
            exact absurd H (by simp)

/-! ### laws_FnTextColorSeq: function 3 -/
def laws_FnTextColorSeq.f (k : Nat) (a0 : Int) : Option (Bool) := if a0 = 0 then ((impl_TextColorSeq.f k a0).bind fun t111 => ((spec_TxSequence.f k (([a0] : List Int))).bind fun t115 => (some (t111.toList == t115.toList)))) else ((spec_TxAttribute.f a0).bind fun t116 => (if t116 = true then ((impl_TextColorSeq.f k a0).bind fun t117 => ((spec_TxSequence.f k (([a0] : List Int))).bind fun t121 => (some (t117.toList == t121.toList)))) else (some true)))
theorem laws_FnTextColorSeq.mono : ∀ a0 k, LeO (laws_FnTextColorSeq.f k a0) (laws_FnTextColorSeq.f (k + 1) a0) := by
  intro a0 k
  unfold laws_FnTextColorSeq.f
  repeat' first
      | (with_reducible exact impl_TextColorSeq.mono _ _)
      | (with_reducible exact spec_TxSequence.mono _ _)
      | (with_reducible exact LeO.refl _)
      | (with_reducible exact LeO.none _)
      | (with_reducible refine LeO.ite ?_ ?_)
      | (with_reducible refine LeO.bind ?_ (fun _ => ?_))
      | exact impl_TextColorSeq.mono _ _
      | exact spec_TxSequence.mono _ _
      | exact LeO.none _
      | refine LeO.ite ?_ ?_
      | refine LeO.bind ?_ (fun _ => ?_)
set_option maxHeartbeats 8000000 in
set_option maxRecDepth 100000 in
theorem laws_FnTextColorSeq.calls (k : Nat) (a0 : Int) (r : Bool) (w : World) (hT : LaidW w) (h : laws_FnTextColorSeq.f k a0 = some r) :
    Calls Tryd.prog 3 #[.int .i64 a0] w fun e w' => e = .returned (.bool r) ∧ Below w.heap.size w w' := by
  have HB := Aside0.mk (Below.refl w.heap.size w)
  have H : (if a0 = 0 then ((impl_TextColorSeq.f k a0).bind fun t111 => ((spec_TxSequence.f k (([a0] : List Int))).bind fun t115 => (some (t111.toList == t115.toList)))) else ((spec_TxAttribute.f a0).bind fun t116 => (if t116 = true then ((impl_TextColorSeq.f k a0).bind fun t117 => ((spec_TxSequence.f k (([a0] : List Int))).bind fun t121 => (some (t117.toList == t121.toList)))) else (some true)))) = some r := h
  clear h
  by_cases c2 : a0 = 0
  · rw [if_pos c2] at H
    have c2b0 : (a0 == 0) = true := beq_iff_eq.mpr c2
    have c2b1 : (a0 != 0) = false := bne_eq_false_iff_eq.mpr c2
    clear c2
    replace H := Option.bind_eq_some_iff.mp H
    obtain ⟨t111, A30, H⟩ := H
    replace H : ((spec_TxSequence.f k (([a0] : List Int))).bind fun t115 => (some (t111.toList == t115.toList))) = some r := H
    have A3 := Aside0.mk A30
    clear A30
    obtain ⟨y112, hy112⟩ : ∃ y_ : List Int, y_ = (([a0] : List Int)) := ⟨_, rfl⟩
    replace H : ((spec_TxSequence.f k y112).bind fun t115 => (some (t111.toList == t115.toList))) = some r := by first | (rw [hy112]; with_reducible exact H) | (have H2_ := (Option.bind_some _ _).symm.trans H; rw [hy112]; with_reducible exact H2_) | (have H2_ := (Option.bind_some _ _).symm.trans H; with_reducible exact H2_) | with_reducible exact H | (rw [hy112]; exact H) | exact H
    have Ny112 := Aside0.mk hy112
    clear hy112
    replace H := Option.bind_eq_some_iff.mp H
    obtain ⟨t115, A40, H⟩ := H
    replace H : (some (t111.toList == t115.toList)) = some r := H
    have A4 := Aside0.mk A40
    clear A40
    obtain rfl := Option.some.inj H
    go_enter Tryd.func3, Tryd.ntmps3
    go_wp2_with (first | (go_at_call 5; (with_reducible refine (impl_TextColorSeq.calls k a0 t111 _ A3.out).mono ?_); rintro e w5 ⟨rfl, hb⟩; have n0_ := Aside0.mk (below_step (by repeat (first | (with_reducible first | exact HB.out | apply below_alloc | apply pw_below_drewN | apply below_drew1) | exact HB.out)) hb); clear HB; have HB := n0_; clear n0_; (try clear hb); (try clear hb2); (try clear hk); (try clear hi)) | ((with_reducible refine gate_dst (N := 14) rfl ?_); (try (refine gate_guard (by rfl) ?_; dsimp only)); refine Kd.R_lit (Kd.int .i64) _ 3 ?hg (N := 14) ?hd (xs := ([a0] : List Int)) (inner := [.int .i64 a0]) (ok := fun _ => True) (okp := fun _ => True) ?hr ?hp (fun _ hk => hk) trivial (Below.refl _ _) (Nat.le_refl _) (by simp) ?_; (case hd => rfl); (case hg => rfl); (case hr => first | (go_simp; done) | (go_simp; rfl)); (case hp => exact (Reps.one (show Kd.M (Kd.int .i64) _ _ _ a0 [.int .i64 a0] from rfl) (Reps.none _ _))); intro v113 w6 ho7 hb hg_ hnew_; clear hg_ hnew_; (first | rw [← Ny112.out] at ho7 | (simp only [Int.reduceToNat] at ho7; rw [← Ny112.out] at ho7)); have n0_ := Aside0.mk (Kd.R_lower ho7 (below_size (by repeat (first | (with_reducible first | exact HB.out | apply below_alloc | apply pw_below_drewN | apply below_drew1) | exact HB.out)))); have n1_ := Aside0.mk (below_step (by repeat (first | (with_reducible first | exact HB.out | apply below_alloc | apply pw_below_drewN | apply below_drew1) | exact HB.out)) hb); clear HB; have HO114 := n0_; have HB := n1_; clear n0_ n1_; clear hb ho7; obtain ⟨Ao8, co8, eo8⟩ := Kd.R_slice HO114.out; subst eo8) | (go_at_call 6; (with_reducible refine (spec_TxSequence.calls k _ _ y112 t115 _ ?side1 ?side2 ?side3 A4.out).mono ?_); (case side1 => exact LaidW.on hT (by repeat (first | (with_reducible first | exact HB.out | apply below_alloc | apply pw_below_drewN | apply below_drew1) | exact HB.out))); (case side2 => repeat (first | exact (Kd.R_reads' HO114.out).2.2 | (with_reducible refine Kd.C_alloc ?_ _) | (with_reducible refine Kd.C_drewN ?_ _) | (with_reducible refine Kd.C_drew ?_))); (case side3 => exact (Kd.R_reads' HO114.out).2.1); rintro e w9 ⟨rfl, hb⟩; have n0_ := Aside0.mk (Kd.R_below (by (with_reducible repeat (first | apply Kd.R_alloc | apply Kd.R_drewN | apply Kd.R_drew)); exact HO114.out) hb); have n1_ := Aside0.mk (below_step (by repeat (first | (with_reducible first | exact HB.out | apply below_alloc | apply pw_below_drewN | apply below_drew1) | exact HB.out)) hb); clear HO114; clear HB; have HO114 := n0_; have HB := n1_; clear n0_ n1_; (try clear hb); (try clear hb2); (try clear hk); (try clear hi)))
    go_ret
    exact ⟨by first | rfl | (simp [errW_none, errW_some] <;> rfl) | (simp [*, errW_none, errW_some] <;> rfl), by repeat (first | (with_reducible first | exact HB.out | apply below_alloc | apply pw_below_drewN | apply below_drew1) | exact HB.out)⟩
  · rw [if_neg c2] at H
    have c2b0 : (a0 == 0) = false := beq_eq_false_iff_ne.mpr c2
    have c2b1 : (a0 != 0) = true := bne_iff_ne.mpr c2
    replace H := Option.bind_eq_some_iff.mp H
    obtain ⟨t116, A100, H⟩ := H
    replace H : (if t116 = true then ((impl_TextColorSeq.f k a0).bind fun t117 => ((spec_TxSequence.f k (([a0] : List Int))).bind fun t121 => (some (t117.toList == t121.toList)))) else (some true)) = some r := H
    have A10 := Aside0.mk A100
    clear A100
    by_cases c11 : t116 = true
    · subst c11
      have H1 : ((impl_TextColorSeq.f k a0).bind fun t117 => ((spec_TxSequence.f k (([a0] : List Int))).bind fun t121 => (some (t117.toList == t121.toList)))) = some r := by rw [if_pos rfl] at H; exact H
      clear H
      have H := H1
      clear H1
      replace H := Option.bind_eq_some_iff.mp H
      obtain ⟨t117, A120, H⟩ := H
      replace H : ((spec_TxSequence.f k (([a0] : List Int))).bind fun t121 => (some (t117.toList == t121.toList))) = some r := H
      have A12 := Aside0.mk A120
      clear A120
      obtain ⟨y118, hy118⟩ : ∃ y_ : List Int, y_ = (([a0] : List Int)) := ⟨_, rfl⟩
      replace H : ((spec_TxSequence.f k y118).bind fun t121 => (some (t117.toList == t121.toList))) = some r := by first | (rw [hy118]; with_reducible exact H) | (have H2_ := (Option.bind_some _ _).symm.trans H; rw [hy118]; with_reducible exact H2_) | (have H2_ := (Option.bind_some _ _).symm.trans H; with_reducible exact H2_) | with_reducible exact H | (rw [hy118]; exact H) | exact H
      have Ny118 := Aside0.mk hy118
      clear hy118
      replace H := Option.bind_eq_some_iff.mp H
      obtain ⟨t121, A130, H⟩ := H
      replace H : (some (t117.toList == t121.toList)) = some r := H
      have A13 := Aside0.mk A130
      clear A130
      obtain rfl := Option.some.inj H
      go_enter Tryd.func3, Tryd.ntmps3
      go_wp2_with (first | (go_at_call 4; (with_reducible refine (spec_TxAttribute.calls a0 true _ A10.out).mono ?_); rintro e w' ⟨rfl, ⟨nd, rfl⟩⟩) | (go_at_call 5; (with_reducible refine (impl_TextColorSeq.calls k a0 t117 _ A12.out).mono ?_); rintro e w14 ⟨rfl, hb⟩; have n0_ := Aside0.mk (below_step (by repeat (first | (with_reducible first | exact HB.out | apply below_alloc | apply pw_below_drewN | apply below_drew1) | exact HB.out)) hb); clear HB; have HB := n0_; clear n0_; (try clear hb); (try clear hb2); (try clear hk); (try clear hi)) | ((with_reducible refine gate_dst (N := 14) rfl ?_); (try (refine gate_guard (by rfl) ?_; dsimp only)); refine Kd.R_lit (Kd.int .i64) _ 3 ?hg (N := 14) ?hd (xs := ([a0] : List Int)) (inner := [.int .i64 a0]) (ok := fun _ => True) (okp := fun _ => True) ?hr ?hp (fun _ hk => hk) trivial (Below.refl _ _) (Nat.le_refl _) (by simp) ?_; (case hd => rfl); (case hg => rfl); (case hr => first | (go_simp; done) | (go_simp; rfl)); (case hp => exact (Reps.one (show Kd.M (Kd.int .i64) _ _ _ a0 [.int .i64 a0] from rfl) (Reps.none _ _))); intro v119 w15 ho16 hb hg_ hnew_; clear hg_ hnew_; (first | rw [← Ny118.out] at ho16 | (simp only [Int.reduceToNat] at ho16; rw [← Ny118.out] at ho16)); have n0_ := Aside0.mk (Kd.R_lower ho16 (below_size (by repeat (first | (with_reducible first | exact HB.out | apply below_alloc | apply pw_below_drewN | apply below_drew1) | exact HB.out)))); have n1_ := Aside0.mk (below_step (by repeat (first | (with_reducible first | exact HB.out | apply below_alloc | apply pw_below_drewN | apply below_drew1) | exact HB.out)) hb); clear HB; have HO120 := n0_; have HB := n1_; clear n0_ n1_; clear hb ho16; obtain ⟨Ao17, co17, eo17⟩ := Kd.R_slice HO120.out; subst eo17) | (go_at_call 6; (with_reducible refine (spec_TxSequence.calls k _ _ y118 t121 _ ?side1 ?side2 ?side3 A13.out).mono ?_); (case side1 => exact LaidW.on hT (by repeat (first | (with_reducible first | exact HB.out | apply below_alloc | apply pw_below_drewN | apply below_drew1) | exact HB.out))); (case side2 => repeat (first | exact (Kd.R_reads' HO120.out).2.2 | (with_reducible refine Kd.C_alloc ?_ _) | (with_reducible refine Kd.C_drewN ?_ _) | (with_reducible refine Kd.C_drew ?_))); (case side3 => exact (Kd.R_reads' HO120.out).2.1); rintro e w18 ⟨rfl, hb⟩; have n0_ := Aside0.mk (Kd.R_below (by (with_reducible repeat (first | apply Kd.R_alloc | apply Kd.R_drewN | apply Kd.R_drew)); exact HO120.out) hb); have n1_ := Aside0.mk (below_step (by repeat (first | (with_reducible first | exact HB.out | apply below_alloc | apply pw_below_drewN | apply below_drew1) | exact HB.out)) hb); clear HO120; clear HB; have HO120 := n0_; have HB := n1_; clear n0_ n1_; (try clear hb); (try clear hb2); (try clear hk); (try clear hi)))
      go_ret
      exact ⟨by first | rfl | (simp [errW_none, errW_some] <;> rfl) | (simp [*, errW_none, errW_some] <;> rfl), by repeat (first | (with_reducible first | exact HB.out | apply below_alloc | apply pw_below_drewN | apply below_drew1) | exact HB.out)⟩
    · replace c11 := Bool.eq_false_iff.mpr c11
      subst c11
      have H1 : (some true) = some r := by rw [if_neg (show ¬ (false = true) by decide)] at H; exact H
      clear H
      have H := H1
      clear H1
      obtain rfl := Option.some.inj H
      go_enter Tryd.func3, Tryd.ntmps3
      go_wp2_with (first | (go_at_call 4; (with_reducible refine (spec_TxAttribute.calls a0 false _ A10.out).mono ?_); rintro e w' ⟨rfl, ⟨nd, rfl⟩⟩))
      go_ret
      exact ⟨by first | rfl | (simp [errW_none, errW_some] <;> rfl) | (simp [*, errW_none, errW_some] <;> rfl), by repeat (first | (with_reducible first | exact HB.out | apply below_alloc | apply pw_below_drewN | apply below_drew1) | exact HB.out)⟩

def laws_FnTextColorSeq.Pure : Prop := ∀ (a0 : Int), (Lit.int .i64 a0).wf = true → ∃ k, laws_FnTextColorSeq.f k a0 = some true

end Go.Proofs.YtimefacdnabkdabDoor.PFnTextColorSeq
