-- Written by hprint, a program of this session
import Derived.Test.YtimefacdnabkdaaPFnColumnIDBackx0
namespace Go.Proofs.Ytimefacdnabkdaa.PFnColumnIDBack
open Go.RowKit Go.Proofs.YtimefacdnabkdaaW.PrintWords Go.Proofs.YtimefacdnabkdaaW.PrintLast Go.Proofs.YtimefacdnabkdaaW.PrintMore
attribute [local go_sem] max2_int min2_int max_two min_two max_three min_three max_four min_four   -- for this text's walks alone
set_option linter.unusedVariables false
set_option linter.unusedSimpArgs false

/-! ### table_AutoIndexColumnID: function 20 -/
def table_AutoIndexColumnID.f : Nat → Int → Option (ByteArray)
  | 0, _ => none
  | k + 1, a0 => if (wrap64 (Int.tdiv a0 26)) > 0 then ((table_AutoIndexColumnID.f k (wrap64 ((wrap64 (Int.tdiv a0 26)) - 1))).bind fun t101 => (if t101.size + (Go.Utf8.encode (wrap32 (wrap64 (65 + (Int.tmod a0 26))))).size ≤ 9223372036854775807 then (some (t101 ++ (Go.Utf8.encode (wrap32 (wrap64 (65 + (Int.tmod a0 26))))))) else (none))) else (some (Go.Utf8.encode (wrap32 (wrap64 (65 + (Int.tmod a0 26))))))
theorem table_AutoIndexColumnID.mono_l : ∀ k, (∀ y0, LeO (table_AutoIndexColumnID.f k y0) (table_AutoIndexColumnID.f (k + 1) y0))
  | 0 => fun _ r h => by simp [table_AutoIndexColumnID.f] at h
  | k + 1 => by
    have ih0 := table_AutoIndexColumnID.mono_l k
    · intro y0
      unfold table_AutoIndexColumnID.f
      repeat' first
      | (with_reducible exact ih0 _)
      | (with_reducible exact LeO.refl _)
      | (with_reducible exact LeO.none _)
      | (with_reducible refine LeO.ite ?_ ?_)
      | (with_reducible refine LeO.bind ?_ (fun _ => ?_))
      | exact ih0 _
      | exact LeO.none _
      | refine LeO.ite ?_ ?_
      | refine LeO.bind ?_ (fun _ => ?_)
theorem table_AutoIndexColumnID.mono : ∀ a0 k, LeO (table_AutoIndexColumnID.f k a0) (table_AutoIndexColumnID.f (k + 1) a0) := by
  intro a0 k
  have ih0 := table_AutoIndexColumnID.mono_l k
  exact ih0 a0
set_option maxHeartbeats 8000000 in
set_option maxRecDepth 100000 in
theorem table_AutoIndexColumnID.calls (k : Nat) : ∀ (a0 : Int) (r : ByteArray) (w : World) (h : table_AutoIndexColumnID.f k a0 = some r),
    Calls Try.prog 20 #[.int .i64 a0] w fun e w' => e = .returned (.string r) ∧ Drawn0 w w' := by
  induction k using Nat.strongRecOn with
  | _ k ih =>
  intro a0 r w h
  cases k with
  | zero => exact absurd h (by simp [table_AutoIndexColumnID.f])
  | succ k =>
  simp only [table_AutoIndexColumnID.f] at h
  have H : (if (wrap64 (Int.tdiv a0 26)) > 0 then ((table_AutoIndexColumnID.f k (wrap64 ((wrap64 (Int.tdiv a0 26)) - 1))).bind fun t101 => (if t101.size + (Go.Utf8.encode (wrap32 (wrap64 (65 + (Int.tmod a0 26))))).size ≤ 9223372036854775807 then (some (t101 ++ (Go.Utf8.encode (wrap32 (wrap64 (65 + (Int.tmod a0 26))))))) else (none))) else (some (Go.Utf8.encode (wrap32 (wrap64 (65 + (Int.tmod a0 26))))))) = some r := h
  clear h
  by_cases c2 : (wrap64 (Int.tdiv a0 26)) > 0
  · rw [if_pos c2] at H
    have c2b0 : decide (0 < (wrap64 (Int.tdiv a0 26))) = true := decide_eq_true c2
    clear c2
    replace H := Option.bind_eq_some_iff.mp H
    obtain ⟨t101, A30, H⟩ := H
    replace H : (if t101.size + (Go.Utf8.encode (wrap32 (wrap64 (65 + (Int.tmod a0 26))))).size ≤ 9223372036854775807 then (some (t101 ++ (Go.Utf8.encode (wrap32 (wrap64 (65 + (Int.tmod a0 26))))))) else (none)) = some r := H
    have A3 := Aside0.mk A30
    clear A30
    by_cases c4 : t101.size + (Go.Utf8.encode (wrap32 (wrap64 (65 + (Int.tmod a0 26))))).size ≤ 9223372036854775807
    · rw [if_pos c4] at H
      have c4b0 := eq_true c4
      have c4b1 : decide (t101.size + (Go.Utf8.encode (wrap32 (wrap64 (65 + (Int.tmod a0 26))))).size ≤ 9223372036854775807) = true := decide_eq_true c4
      try have c4b2 : (9223372036854775807 < t101.size + (Go.Utf8.encode (wrap32 (wrap64 (65 + (Int.tmod a0 26))))).size) = False := eq_false (Nat.not_lt.2 c4)
      obtain rfl := Option.some.inj H
      go_enter Try.func20, Try.ntmps20
      go_wp2_with (first | ((with_reducible refine gate_callee (f := 20) rfl ?_); refine goesL_ (some 17) rfl rfl Try.func20 (by kernel_rfl) rfl #[.int .i64 (wrap64 ((wrap64 (Int.tdiv a0 26)) - 1))] rfl (by (try simp only [List.map_toArray, List.map_cons, List.map_nil]); first | done | rfl | (simp only [List.length_drop, List.length_take]; rfl)) ?_; (with_reducible refine (ih k (by omega) (wrap64 ((wrap64 (Int.tdiv a0 26)) - 1)) t101 _ A3.out).mono ?_); rintro e w' ⟨rfl, ⟨nd, rfl⟩⟩; refine ⟨_, rfl, ?_⟩))
      go_ret
      exact ⟨by first | rfl | (simp; done) | (simp [*]; done), by repeat (first | exact Drawn0.refl _ | apply Drawn0.step)⟩
    · rw [if_neg c4] at H
      exact absurd H (by simp)
  · rw [if_neg c2] at H
    have c2b0 : decide (0 < (wrap64 (Int.tdiv a0 26))) = false := decide_eq_false c2
    clear c2
    obtain rfl := Option.some.inj H
    go_enter Try.func20, Try.ntmps20
    go_wp2
    go_ret
    exact ⟨by first | rfl | (simp; done) | (simp [*]; done), by repeat (first | exact Drawn0.refl _ | apply Drawn0.step)⟩

/-! ### impl_ColumnID: function 9 -/
def impl_ColumnID.f (k : Nat) (a0 : Int) : Option (ByteArray) := (table_AutoIndexColumnID.f k a0).bind fun t102 => (some t102)
theorem impl_ColumnID.mono : ∀ a0 k, LeO (impl_ColumnID.f k a0) (impl_ColumnID.f (k + 1) a0) := by
  intro a0 k
  unfold impl_ColumnID.f
  repeat' first
      | (with_reducible exact table_AutoIndexColumnID.mono _ _)
      | (with_reducible exact LeO.refl _)
      | (with_reducible exact LeO.none _)
      | (with_reducible refine LeO.ite ?_ ?_)
      | (with_reducible refine LeO.bind ?_ (fun _ => ?_))
      | exact table_AutoIndexColumnID.mono _ _
      | exact LeO.none _
      | refine LeO.ite ?_ ?_
      | refine LeO.bind ?_ (fun _ => ?_)
set_option maxHeartbeats 8000000 in
set_option maxRecDepth 100000 in
theorem impl_ColumnID.calls (k : Nat) (a0 : Int) (r : ByteArray) (w : World) (h : impl_ColumnID.f k a0 = some r) :
    Calls Try.prog 9 #[.int .i64 a0] w fun e w' => e = .returned (.string r) ∧ Drawn0 w w' := by
  have H : ((table_AutoIndexColumnID.f k a0).bind fun t102 => (some t102)) = some r := h
  clear h
  replace H := Option.bind_eq_some_iff.mp H
  obtain ⟨t102, A20, H⟩ := H
  replace H : (some t102) = some r := H
  have A2 := Aside0.mk A20
  clear A20
  obtain rfl := Option.some.inj H
  go_enter Try.func9, Try.ntmps9
  go_wp2_with (first | ((with_reducible refine gate_callee (f := 20) rfl ?_); refine goesL_ (some 4) rfl rfl Try.func20 (by kernel_rfl) rfl #[.int .i64 a0] rfl (by (try simp only [List.map_toArray, List.map_cons, List.map_nil]); first | done | rfl | (simp only [List.length_drop, List.length_take]; rfl)) ?_; (with_reducible refine (table_AutoIndexColumnID.calls k a0 t102 _ A2.out).mono ?_); rintro e w' ⟨rfl, ⟨nd, rfl⟩⟩; refine ⟨_, rfl, ?_⟩))
  go_ret
  exact ⟨by first | rfl | (simp; done) | (simp [*]; done), by repeat (first | exact Drawn0.refl _ | apply Drawn0.step)⟩

/-! ### laws_FnColumnIDBack: function 3 -/
mutual
def laws_FnColumnIDBack.j0 : Nat → Int → Bool → Option (Bool)
  | 0, _, _ => none
  | k + 1, x0, x11 => if x11 = true then (some true) else ((impl_ColumnID.f k x0).bind fun t103 => (laws_FnColumnIDBack.l0 k x0 t103 0 0))
def laws_FnColumnIDBack.l0 : Nat → Int → ByteArray → Int → Int → Option (Bool)
  | 0, _, _, _, _ => none
  | k + 1, x0, x3, x4, x5 => if x5 < (x3.size : Int) then (if 0 ≤ x5 then (if (bt x3 x5) < 65 then (some false) else (if (bt x3 x5) > 90 then (some false) else (laws_FnColumnIDBack.l0 k x0 x3 (wrap64 ((wrap64 ((wrap64 (x4 * 26)) + (((bt x3 x5) - 65) % 256))) + 1)) (wrap64 (x5 + 1))))) else (none)) else (some ((wrap64 (x4 - 1)) == x0))
end
def laws_FnColumnIDBack.f (k : Nat) (a0 : Int) : Option (Bool) := if a0 < 0 then (laws_FnColumnIDBack.j0 k a0 true) else (laws_FnColumnIDBack.j0 k a0 (decide (a0 ≥ 1152921504606846976)))
theorem laws_FnColumnIDBack.mono_l : ∀ k, (∀ y0 y1, LeO (laws_FnColumnIDBack.j0 k y0 y1) (laws_FnColumnIDBack.j0 (k + 1) y0 y1)) ∧ (∀ y0 y1 y2 y3, LeO (laws_FnColumnIDBack.l0 k y0 y1 y2 y3) (laws_FnColumnIDBack.l0 (k + 1) y0 y1 y2 y3))
  | 0 => ⟨fun _ _ r h => by simp [laws_FnColumnIDBack.j0] at h, fun _ _ _ _ r h => by simp [laws_FnColumnIDBack.l0] at h⟩
  | k + 1 => by
    obtain ⟨ih0, ih1⟩ := laws_FnColumnIDBack.mono_l k
    refine ⟨?_, ?_⟩
    · intro y0 y1
      unfold laws_FnColumnIDBack.j0
      repeat' first
      | (with_reducible exact ih0 _ _)
      | (with_reducible exact ih1 _ _ _ _)
      | (with_reducible exact impl_ColumnID.mono _ _)
      | (with_reducible exact LeO.refl _)
      | (with_reducible exact LeO.none _)
      | (with_reducible refine LeO.ite ?_ ?_)
      | (with_reducible refine LeO.bind ?_ (fun _ => ?_))
      | exact ih0 _ _
      | exact ih1 _ _ _ _
      | exact impl_ColumnID.mono _ _
      | exact LeO.none _
      | refine LeO.ite ?_ ?_
      | refine LeO.bind ?_ (fun _ => ?_)
    · intro y0 y1 y2 y3
      unfold laws_FnColumnIDBack.l0
      repeat' first
      | (with_reducible exact ih0 _ _)
      | (with_reducible exact ih1 _ _ _ _)
      | (with_reducible exact impl_ColumnID.mono _ _)
      | (with_reducible exact LeO.refl _)
      | (with_reducible exact LeO.none _)
      | (with_reducible refine LeO.ite ?_ ?_)
      | (with_reducible refine LeO.bind ?_ (fun _ => ?_))
      | exact ih0 _ _
      | exact ih1 _ _ _ _
      | exact impl_ColumnID.mono _ _
      | exact LeO.none _
      | refine LeO.ite ?_ ?_
      | refine LeO.bind ?_ (fun _ => ?_)
theorem laws_FnColumnIDBack.mono : ∀ a0 k, LeO (laws_FnColumnIDBack.f k a0) (laws_FnColumnIDBack.f (k + 1) a0) := by
  intro a0 k
  obtain ⟨ih0, ih1⟩ := laws_FnColumnIDBack.mono_l k
  unfold laws_FnColumnIDBack.f
  repeat' first
      | (with_reducible exact ih0 _ _)
      | (with_reducible exact ih1 _ _ _ _)
      | (with_reducible exact impl_ColumnID.mono _ _)
      | (with_reducible exact LeO.refl _)
      | (with_reducible exact LeO.none _)
      | (with_reducible refine LeO.ite ?_ ?_)
      | (with_reducible refine LeO.bind ?_ (fun _ => ?_))
      | exact ih0 _ _
      | exact ih1 _ _ _ _
      | exact impl_ColumnID.mono _ _
      | exact LeO.none _
      | refine LeO.ite ?_ ?_
      | refine LeO.bind ?_ (fun _ => ?_)
set_option maxHeartbeats 8000000 in
set_option maxRecDepth 100000 in
theorem laws_FnColumnIDBack.calls (k : Nat) (a0 : Int) (r : Bool) (w : World) (h : laws_FnColumnIDBack.f k a0 = some r) :
    Calls Try.prog 3 #[.int .i64 a0] w fun e w' => e = .returned (.bool r) ∧ Drawn0 w w' := by
  have H : (if a0 < 0 then (laws_FnColumnIDBack.j0 k a0 true) else (laws_FnColumnIDBack.j0 k a0 (decide (a0 ≥ 1152921504606846976)))) = some r := h
  clear h
  have HC2 := Aside0.mk H
  clear H
  go_enter Try.func3, Try.ntmps3
  go_upto_region 1 with (fail)
  go_cut [11] (fun v11 wc => ∃ (kq : Nat) (x11_1 : Bool), v11 = .bool x11_1 ∧ Aside0 (laws_FnColumnIDBack.j0 kq a0 x11_1 = some r) ∧ Aside0 (kq ≤ k) ∧ Drawn0 w wc)
  case first =>
    have H := HC2.out
    clear HC2
    by_cases c3 : a0 < 0
    · rw [if_pos c3] at H
      have c3b0 : decide (a0 < 0) = true := decide_eq_true c3
      clear c3
      (first | rw [c3b0] | (simp only [i64_w, i32_w]; rw [c3b0]) | skip)
      have H' := Aside0.mk H
      clear H
      go_wp2
      go_meet
      case rel => exact ⟨_, (true), (by first | rfl | (simp; done) | (simp [*]; done)), H', ⟨by first | omega | exact Nat.le_refl _⟩, by repeat (first | exact Drawn0.refl _ | apply Drawn0.step)⟩
    · rw [if_neg c3] at H
      have c3b0 : decide (a0 < 0) = false := decide_eq_false c3
      clear c3
      (first | rw [c3b0] | (simp only [i64_w, i32_w]; rw [c3b0]) | skip)
      have H' := Aside0.mk H
      clear H
      go_wp2
      go_meet
      case rel => exact ⟨_, (decide (a0 ≥ 1152921504606846976)), (by first | rfl | (simp; done) | (simp [*]; done)), H', ⟨by first | omega | exact Nat.le_refl _⟩, by repeat (first | exact Drawn0.refl _ | apply Drawn0.step)⟩
  case rest =>
    clear HC2
    try clear p2
    try clear c3
    try clear c3b0
    obtain ⟨kq, x11_1, rfl, HA, HJ1, ⟨mc1, rfl⟩⟩ := hcut
    cases kq with
    | zero => exact absurd HA.out (by simp [laws_FnColumnIDBack.j0])
    | succ kj1 =>
      have H := HA.out
      clear HA
      simp only [laws_FnColumnIDBack.j0] at H
      by_cases c4 : x11_1 = true
      · subst c4
        have H1 : (some true) = some r := by rw [if_pos rfl] at H; exact H
        clear H
        have H := H1
        clear H1
        obtain rfl := Option.some.inj H
        go_wp2
        go_ret
        exact ⟨by first | rfl | (simp; done) | (simp [*]; done), by repeat (first | exact Drawn0.refl _ | apply Drawn0.step)⟩
      · replace c4 := Bool.eq_false_iff.mpr c4
        subst c4
        have H1 : ((impl_ColumnID.f kj1 a0).bind fun t103 => (laws_FnColumnIDBack.l0 kj1 a0 t103 0 0)) = some r := by rw [if_neg (show ¬ (false = true) by decide)] at H; exact H
        clear H
        have H := H1
        clear H1
        replace H := Option.bind_eq_some_iff.mp H
        obtain ⟨t103, A50, H⟩ := H
        replace H : (laws_FnColumnIDBack.l0 kj1 a0 t103 0 0) = some r := H
        have A5 := Aside0.mk A50
        clear A50
        have H' := Aside0.mk H
        clear H
        go_wp2_with (first | ((with_reducible refine gate_callee (f := 9) rfl ?_); refine goesL_ (some 13) rfl rfl Try.func9 (by kernel_rfl) rfl #[.int .i64 a0] rfl (by (try simp only [List.map_toArray, List.map_cons, List.map_nil]); first | done | rfl | (simp only [List.length_drop, List.length_take]; rfl)) ?_; (with_reducible refine (impl_ColumnID.calls kj1 a0 t103 _ A5.out).mono ?_); rintro e w' ⟨rfl, ⟨nd, rfl⟩⟩; refine ⟨_, rfl, ?_⟩))
        go_loopg [4, 5] kj1 (fun kq v4 v5 w' => ∃ (x4_2 : Int) (x5_2 : Int), v4 = .int .i64 x4_2 ∧ v5 = .int .i64 x5_2 ∧ Aside0 (laws_FnColumnIDBack.l0 kq a0 t103 x4_2 x5_2 = some r) ∧ Aside0 (kq ≤ kj1) ∧ Drawn0 w w')
        case atStart => exact ⟨(0), (0), (by first | rfl | (simp; done) | (simp [*]; done)), (by first | rfl | (simp; done) | (simp [*]; done)), H', ⟨Nat.le_refl _⟩, by repeat (first | exact Drawn0.refl _ | apply Drawn0.step)⟩
        case round =>
          clear H'
          try clear c1
          try clear p2
          try clear c3
          try clear c3b0
          try clear c4
          try clear p2
          obtain ⟨x4_2, x5_2, rfl, rfl, HA, HK2, ⟨m2, rfl⟩⟩ := hrel
          cases gk with
          | zero => exact absurd HA.out (by simp [laws_FnColumnIDBack.l0])
          | succ k2 =>
            have H := HA.out
            clear HA
            simp only [laws_FnColumnIDBack.l0] at H
            by_cases c6 : x5_2 < (t103.size : Int)
            · rw [if_pos c6] at H
              have c6b0 : decide (x5_2 < (t103.size : Int)) = true := decide_eq_true c6
              clear c6
              by_cases c7 : 0 ≤ x5_2
              · rw [if_pos c7] at H
                have c7b0 : decide (0 ≤ x5_2) = true := decide_eq_true c7
                clear c7
                by_cases c9 : (bt t103 x5_2) < 65
                · rw [if_pos c9] at H
                  have c9b0 : decide ((bt t103 x5_2) < 65) = true := decide_eq_true c9
                  clear c9
                  obtain rfl := Option.some.inj H
                  have p8 : 0 ≤ (x5_2 : Int) := of_decide_eq_true (by first | (with_reducible assumption) | assumption)
                  have q8 : x5_2 < (t103.size : Int) := of_decide_eq_true (by first | (with_reducible assumption) | assumption)
                  have hx8 := bt_at t103 x5_2
                  replace p8 := eq_true p8
                  replace q8 := eq_true q8
                  go_wp2
                  go_ret
                  exact ⟨by first | rfl | (simp; done) | (simp [*]; done), by repeat (first | exact Drawn0.refl _ | apply Drawn0.step)⟩
                · rw [if_neg c9] at H
                  have c9b0 : decide ((bt t103 x5_2) < 65) = false := decide_eq_false c9
                  clear c9
                  by_cases c11 : (bt t103 x5_2) > 90
                  · rw [if_pos c11] at H
                    have c11b0 : decide (90 < (bt t103 x5_2)) = true := decide_eq_true c11
                    clear c11
                    obtain rfl := Option.some.inj H
                    have p8 : 0 ≤ (x5_2 : Int) := of_decide_eq_true (by first | (with_reducible assumption) | assumption)
                    have q8 : x5_2 < (t103.size : Int) := of_decide_eq_true (by first | (with_reducible assumption) | assumption)
                    have hx8 := bt_at t103 x5_2
                    replace p8 := eq_true p8
                    replace q8 := eq_true q8
                    have p10 : 0 ≤ (x5_2 : Int) := of_decide_eq_true (by first | (with_reducible assumption) | assumption)
                    have q10 : x5_2 < (t103.size : Int) := of_decide_eq_true (by first | (with_reducible assumption) | assumption)
                    have hx10 := bt_at t103 x5_2
                    replace p10 := eq_true p10
                    replace q10 := eq_true q10
                    go_wp2
                    go_ret
                    exact ⟨by first | rfl | (simp; done) | (simp [*]; done), by repeat (first | exact Drawn0.refl _ | apply Drawn0.step)⟩
                  · rw [if_neg c11] at H
                    have c11b0 : decide (90 < (bt t103 x5_2)) = false := decide_eq_false c11
                    clear c11
                    have H' := Aside0.mk H
                    clear H
                    have p8 : 0 ≤ (x5_2 : Int) := of_decide_eq_true (by first | (with_reducible assumption) | assumption)
                    have q8 : x5_2 < (t103.size : Int) := of_decide_eq_true (by first | (with_reducible assumption) | assumption)
                    have hx8 := bt_at t103 x5_2
                    replace p8 := eq_true p8
                    replace q8 := eq_true q8
                    have p10 : 0 ≤ (x5_2 : Int) := of_decide_eq_true (by first | (with_reducible assumption) | assumption)
                    have q10 : x5_2 < (t103.size : Int) := of_decide_eq_true (by first | (with_reducible assumption) | assumption)
                    have hx10 := bt_at t103 x5_2
                    replace p10 := eq_true p10
                    replace q10 := eq_true q10
                    have p12 : 0 ≤ (x5_2 : Int) := of_decide_eq_true (by first | (with_reducible assumption) | assumption)
                    have q12 : x5_2 < (t103.size : Int) := of_decide_eq_true (by first | (with_reducible assumption) | assumption)
                    have hx12 := bt_at t103 x5_2
                    replace p12 := eq_true p12
                    replace q12 := eq_true q12
                    go_wp2
                    go_roundg k2
                    case measure => have := HJ1.out; have := HK2.out; omega
                    case rel => exact ⟨(wrap64 ((wrap64 ((wrap64 (x4_2 * 26)) + (((bt t103 x5_2) - 65) % 256))) + 1)), (wrap64 (x5_2 + 1)), (by first | rfl | (simp; done) | (simp [*]; done)), (by first | rfl | (simp; done) | (simp [*]; done)), H', ⟨by have := HJ1.out; have := HK2.out; omega⟩, by repeat (first | exact Drawn0.refl _ | apply Drawn0.step)⟩
              · rw [if_neg c7] at H
                exact absurd H (by simp)
            · rw [if_neg c6] at H
              have c6b0 : decide (x5_2 < (t103.size : Int)) = false := decide_eq_false c6
              clear c6
              obtain rfl := Option.some.inj H
              go_wp2
              go_ret
              exact ⟨by first | rfl | (simp; done) | (simp [*]; done), by repeat (first | exact Drawn0.refl _ | apply Drawn0.step)⟩

/-- THE ONE PURE STATEMENT of laws_FnColumnIDBack: yours. -/
def laws_FnColumnIDBack.Pure : Prop := ∀ (a0 : Int), (Lit.int .i64 a0).wf = true → ∃ k, laws_FnColumnIDBack.f k a0 = some true
theorem laws_FnColumnIDBack.walk (P : laws_FnColumnIDBack.Pure) (a0 : Int) (w : World) (w0 : (Lit.int .i64 a0).wf = true) :
    Calls Try.prog 3 #[.int .i64 a0] w fun e w' => e = .returned (.bool true) ∧ Below w.heap.size w w' := by
  obtain ⟨k, h⟩ := P a0 w0
  refine (laws_FnColumnIDBack.calls k a0 true w h).mono ?_
  rintro e w' ⟨rfl, hd⟩
  exact ⟨rfl, hd.below⟩

end Go.Proofs.Ytimefacdnabkdaa.PFnColumnIDBack
