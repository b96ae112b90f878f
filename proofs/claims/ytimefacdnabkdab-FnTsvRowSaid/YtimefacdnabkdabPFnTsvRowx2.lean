-- Written by hprint.py, a program of this session
import Derived.Test.YtimefacdnabkdabPFnTsvRowx0
namespace Go.Proofs.Ytimefacdnabkdab.PFnTsvRow
open Go.RowKit Go.Proofs.Ytimefacdnabkdab.Hand Go.Proofs.YtimefacdnabkdabW.PrintWords Go.Proofs.YtimefacdnabkdabW.PrintLast Go.Proofs.YtimefacdnabkdabW.PrintMore
attribute [local go_sem] max2_int min2_int max_two min_two max_three min_three max_four min_four   -- for this text's walks alone
set_option linter.unusedVariables false
set_option linter.unusedSimpArgs false

/-! ### spec_Decimal: function 54 -/
def spec_Decimal.f : Nat → Int → Option (ByteArray)
  | 0, _ => none
  | k + 1, a0 => if a0 < 0 then (if a0 > (-10) then ((some (([(wrap64 (48 - a0)) % 256] : List Int) : List Int)).bind fun y104 => (if 1 + (strOfNums y104).size ≤ 9223372036854775807 then (some ((⟨#[45]⟩ : ByteArray) ++ (strOfNums y104))) else (none))) else ((some (([(wrap64 (48 - (Int.tmod a0 10))) % 256] : List Int) : List Int)).bind fun y107 => ((spec_Decimal.f k (wrap64 (Int.tdiv a0 10))).bind fun t110 => (if t110.size + (strOfNums y107).size ≤ 9223372036854775807 then (some (t110 ++ (strOfNums y107))) else (none))))) else (if a0 < 10 then (some (strOfNums (([(wrap64 (48 + a0)) % 256] : List Int)))) else ((spec_Decimal.f k (wrap64 (Int.tdiv a0 10))).bind fun t114 => ((some (([(wrap64 (48 + (Int.tmod a0 10))) % 256] : List Int) : List Int)).bind fun y115 => (if t114.size + (strOfNums y115).size ≤ 9223372036854775807 then (some (t114 ++ (strOfNums y115))) else (none)))))
theorem spec_Decimal.mono_l : ∀ k, (∀ y0, LeO (spec_Decimal.f k y0) (spec_Decimal.f (k + 1) y0))
  | 0 => fun _ r h => by simp [spec_Decimal.f] at h
  | k + 1 => by
    have ih0 := spec_Decimal.mono_l k
    · intro y0
      unfold spec_Decimal.f
      repeat' first
      | (with_reducible exact ih0 _)
      | (with_reducible exact LeO.refl _)
      | (with_reducible exact LeO.none _)
      | (with_reducible refine LeO.ite ?_ ?_)
      | (with_reducible refine LeO.bind ?_ (fun _ => ?_))
      | exact ih0 _
      | exact LeO.none _
      | refine LeO.ite ?_ ?_
      | refine LeO.bind ?_ (fun _ => ?_)
theorem spec_Decimal.mono : ∀ a0 k, LeO (spec_Decimal.f k a0) (spec_Decimal.f (k + 1) a0) := by
  intro a0 k
  have ih0 := spec_Decimal.mono_l k
  exact ih0 a0
def spec_Decimal.T9 : Bool × List (List Nat × List Nat) := (true, [([], []), ([0], [0]), ([1], [1]), ([], []), ([3], [3]), ([4], [4]), ([5], [5]), ([6], [6]), ([7], [7]), ([2, 8], [2, 8]), ([9, 2, 0, 1, 2, 3, 4, 5, 6, 7, 8, 9], [9])])
def spec_Decimal.B9 : List Nat := [0, 1, 3, 0, 8, 24, 56, 120, 248, 511, 1023]
theorem spec_Decimal.tab9 : rtab .any (opsOf Try.f54 9) = spec_Decimal.T9 := by kernel_rfl
theorem spec_Decimal.bits9 : waitsOk spec_Decimal.T9.2 spec_Decimal.B9 = true := by kernel_rfl
set_option maxHeartbeats 8000000 in
set_option maxRecDepth 100000 in
theorem spec_Decimal.calls (k : Nat) : ∀ (a0 : Int) (r : ByteArray) (w : World) (h : spec_Decimal.f k a0 = some r),
    Calls Try.prog 54 #[.int .i64 a0] w fun e w' => e = .returned (.string r) ∧ Below w.heap.size w w' := by
  induction k using Nat.strongRecOn with
  | _ k ih =>
  intro a0 r w h
  cases k with
  | zero => exact absurd h (by simp [spec_Decimal.f])
  | succ k =>
  simp only [spec_Decimal.f] at h
  have HB := Aside0.mk (Below.refl w.heap.size w)
  have H : (if a0 < 0 then (if a0 > (-10) then ((some (([(wrap64 (48 - a0)) % 256] : List Int) : List Int)).bind fun y104 => (if 1 + (strOfNums y104).size ≤ 9223372036854775807 then (some ((⟨#[45]⟩ : ByteArray) ++ (strOfNums y104))) else (none))) else ((some (([(wrap64 (48 - (Int.tmod a0 10))) % 256] : List Int) : List Int)).bind fun y107 => ((spec_Decimal.f k (wrap64 (Int.tdiv a0 10))).bind fun t110 => (if t110.size + (strOfNums y107).size ≤ 9223372036854775807 then (some (t110 ++ (strOfNums y107))) else (none))))) else (if a0 < 10 then (some (strOfNums (([(wrap64 (48 + a0)) % 256] : List Int)))) else ((spec_Decimal.f k (wrap64 (Int.tdiv a0 10))).bind fun t114 => ((some (([(wrap64 (48 + (Int.tmod a0 10))) % 256] : List Int) : List Int)).bind fun y115 => (if t114.size + (strOfNums y115).size ≤ 9223372036854775807 then (some (t114 ++ (strOfNums y115))) else (none)))))) = some r := h
  clear h
  by_cases c2 : a0 < 0
  · rw [if_pos c2] at H
    have c2b0 : decide (a0 < 0) = true := decide_eq_true c2
    clear c2
    by_cases c3 : a0 > (-10)
    · rw [if_pos c3] at H
      have c3b0 : decide ((-10) < a0) = true := decide_eq_true c3
      clear c3
      obtain ⟨y104, hy104⟩ : ∃ y_ : List Int, y_ = (([(wrap64 (48 - a0)) % 256] : List Int)) := ⟨_, rfl⟩
      replace H : (if 1 + (strOfNums y104).size ≤ 9223372036854775807 then (some ((⟨#[45]⟩ : ByteArray) ++ (strOfNums y104))) else (none)) = some r := by first | (rw [hy104]; with_reducible exact H) | (have H2_ := (Option.bind_some _ _).symm.trans H; rw [hy104]; with_reducible exact H2_) | (have H2_ := (Option.bind_some _ _).symm.trans H; with_reducible exact H2_) | with_reducible exact H | (rw [hy104]; exact H) | exact H
      have Ny104 := Aside0.mk hy104
      clear hy104
      by_cases c4 : 1 + (strOfNums y104).size ≤ 9223372036854775807
      · rw [if_pos c4] at H
        have c4b0 := eq_true c4
        have c4b1 : decide (1 + (strOfNums y104).size ≤ 9223372036854775807) = true := decide_eq_true c4
        try have c4b2 : (9223372036854775807 < 1 + (strOfNums y104).size) = False := eq_false (Nat.not_lt.2 c4)
        obtain rfl := Option.some.inj H
        go_enter Try.func54, Try.ntmps54
        go_wp2_with (first | ((with_reducible refine gate_dst (N := 11) rfl ?_); refine Kd.R_lit (Kd.int .u8) _ 5 ?hg (N := 11) ?hd (xs := ([(wrap64 (48 - a0)) % 256] : List Int)) (inner := [.int .u8 ((wrap64 (48 - a0)) % 256)]) (ok := fun _ => True) (okp := fun _ => True) ?hr ?hp (fun _ hk => hk) trivial (Below.refl _ _) (Nat.le_refl _) (by simp) ?_; (case hd => rfl); (case hg => rfl); (case hr => first | (go_simp; done) | (go_simp; rfl)); (case hp => exact (Reps.one (show Kd.M (Kd.int .u8) _ _ _ ((wrap64 (48 - a0)) % 256) [.int .u8 ((wrap64 (48 - a0)) % 256)] from rfl) (Reps.none _ _))); intro v105 w5 ho6 hb hg_ hnew_; clear hg_ hnew_; (first | rw [← Ny104.out] at ho6 | (simp only [Int.reduceToNat] at ho6; rw [← Ny104.out] at ho6)); have n0_ := Aside0.mk (Kd.R_lower ho6 (below_size (by repeat (first | (with_reducible first | exact HB.out | apply below_alloc | apply pw_below_drewN | apply below_drew1) | exact HB.out)))); have n1_ := Aside0.mk (below_step (by repeat (first | (with_reducible first | exact HB.out | apply below_alloc | apply pw_below_drewN | apply below_drew1) | exact HB.out)) hb); clear HB; have HO106 := n0_; have HB := n1_; clear n0_ n1_; clear hb ho6; have hcv7 := own_string (P := Try.prog) Try.underlying24 Try.underlying5 Try.underlying9 (Kd.own_of_R HO106.out)))
        go_ret
        exact ⟨by first | rfl | (simp [errW_none, errW_some] <;> rfl) | (simp [*, errW_none, errW_some] <;> rfl), by repeat (first | (with_reducible first | exact HB.out | apply below_alloc | apply pw_below_drewN | apply below_drew1) | exact HB.out)⟩
      · rw [if_neg c4] at H
        exact absurd H (by simp)
    · rw [if_neg c3] at H
      have c3b0 : decide ((-10) < a0) = false := decide_eq_false c3
      clear c3
      obtain ⟨y107, hy107⟩ : ∃ y_ : List Int, y_ = (([(wrap64 (48 - (Int.tmod a0 10))) % 256] : List Int)) := ⟨_, rfl⟩
      replace H : ((spec_Decimal.f k (wrap64 (Int.tdiv a0 10))).bind fun t110 => (if t110.size + (strOfNums y107).size ≤ 9223372036854775807 then (some (t110 ++ (strOfNums y107))) else (none))) = some r := by first | (rw [hy107]; with_reducible exact H) | (have H2_ := (Option.bind_some _ _).symm.trans H; rw [hy107]; with_reducible exact H2_) | (have H2_ := (Option.bind_some _ _).symm.trans H; with_reducible exact H2_) | with_reducible exact H | (rw [hy107]; exact H) | exact H
      have Ny107 := Aside0.mk hy107
      clear hy107
      replace H := Option.bind_eq_some_iff.mp H
      obtain ⟨t110, A80, H⟩ := H
      replace H : (if t110.size + (strOfNums y107).size ≤ 9223372036854775807 then (some (t110 ++ (strOfNums y107))) else (none)) = some r := H
      have A8 := Aside0.mk A80
      clear A80
      by_cases c9 : t110.size + (strOfNums y107).size ≤ 9223372036854775807
      · rw [if_pos c9] at H
        have c9b0 := eq_true c9
        have c9b1 : decide (t110.size + (strOfNums y107).size ≤ 9223372036854775807) = true := decide_eq_true c9
        try have c9b2 : (9223372036854775807 < t110.size + (strOfNums y107).size) = False := eq_false (Nat.not_lt.2 c9)
        obtain rfl := Option.some.inj H
        go_enter Try.func54, Try.ntmps54
        go_wp2_with (first | ((with_reducible refine gate_dst (N := 18) rfl ?_); refine Kd.R_lit (Kd.int .u8) _ 5 ?hg (N := 18) ?hd (xs := ([(wrap64 (48 - (Int.tmod a0 10))) % 256] : List Int)) (inner := [.int .u8 ((wrap64 (48 - (Int.tmod a0 10))) % 256)]) (ok := fun _ => True) (okp := fun _ => True) ?hr ?hp (fun _ hk => hk) trivial (Below.refl _ _) (Nat.le_refl _) (by simp) ?_; (case hd => rfl); (case hg => rfl); (case hr => first | (go_simp; done) | (go_simp; rfl)); (case hp => exact (Reps.one (show Kd.M (Kd.int .u8) _ _ _ ((wrap64 (48 - (Int.tmod a0 10))) % 256) [.int .u8 ((wrap64 (48 - (Int.tmod a0 10))) % 256)] from rfl) (Reps.none _ _))); intro v108 w10 ho11 hb hg_ hnew_; clear hg_ hnew_; (first | rw [← Ny107.out] at ho11 | (simp only [Int.reduceToNat] at ho11; rw [← Ny107.out] at ho11)); have n0_ := Aside0.mk (Kd.R_lower ho11 (below_size (by repeat (first | (with_reducible first | exact HB.out | apply below_alloc | apply pw_below_drewN | apply below_drew1) | exact HB.out)))); have n1_ := Aside0.mk (below_step (by repeat (first | (with_reducible first | exact HB.out | apply below_alloc | apply pw_below_drewN | apply below_drew1) | exact HB.out)) hb); clear HB; have HO109 := n0_; have HB := n1_; clear n0_ n1_; clear hb ho11; have hcv12 := own_string (P := Try.prog) Try.underlying24 Try.underlying5 Try.underlying9 (Kd.own_of_R HO109.out)) | ((with_reducible refine gate_callee (f := 54) rfl ?_); refine goesL_ (some 22) rfl rfl Try.func54 (by kernel_rfl) rfl #[.int .i64 (wrap64 (Int.tdiv a0 10))] rfl (by (try simp only [List.map_toArray, List.map_cons, List.map_nil]); first | done | rfl | (simp only [List.length_drop, List.length_take]; rfl)) ?_; (with_reducible refine (ih k (by omega) (wrap64 (Int.tdiv a0 10)) t110 _ A8.out).mono ?_); rintro e w13 ⟨rfl, hb⟩; refine ⟨_, rfl, ?_⟩; have n0_ := Aside0.mk (Kd.R_below (by (with_reducible repeat (first | apply Kd.R_alloc | apply Kd.R_drewN | apply Kd.R_drew)); exact HO109.out) hb); have n1_ := Aside0.mk (below_step (by repeat (first | (with_reducible first | exact HB.out | apply below_alloc | apply pw_below_drewN | apply below_drew1) | exact HB.out)) hb); clear HO109; clear HB; have HO109 := n0_; have HB := n1_; clear n0_ n1_; (try clear hb); (try clear hb2); (try clear hk); (try clear hi)))
        go_ret
        exact ⟨by first | rfl | (simp [errW_none, errW_some] <;> rfl) | (simp [*, errW_none, errW_some] <;> rfl), by repeat (first | (with_reducible first | exact HB.out | apply below_alloc | apply pw_below_drewN | apply below_drew1) | exact HB.out)⟩
      · rw [if_neg c9] at H
        exact absurd H (by simp)
  · rw [if_neg c2] at H
    have c2b0 : decide (a0 < 0) = false := decide_eq_false c2
    clear c2
    by_cases c14 : a0 < 10
    · rw [if_pos c14] at H
      have c14b0 : decide (a0 < 10) = true := decide_eq_true c14
      clear c14
      obtain ⟨y111, hy111⟩ : ∃ y_ : List Int, y_ = (([(wrap64 (48 + a0)) % 256] : List Int)) := ⟨_, rfl⟩
      replace H : (some (strOfNums y111)) = some r := by first | (rw [hy111]; with_reducible exact H) | (have H2_ := (Option.bind_some _ _).symm.trans H; rw [hy111]; with_reducible exact H2_) | (have H2_ := (Option.bind_some _ _).symm.trans H; with_reducible exact H2_) | with_reducible exact H | (rw [hy111]; exact H) | exact H
      have Ny111 := Aside0.mk hy111
      clear hy111
      obtain rfl := Option.some.inj H
      go_enter Try.func54, Try.ntmps54
      go_wp2_with (first | ((with_reducible refine gate_dst (N := 30) rfl ?_); refine Kd.R_lit (Kd.int .u8) _ 5 ?hg (N := 30) ?hd (xs := ([(wrap64 (48 + a0)) % 256] : List Int)) (inner := [.int .u8 ((wrap64 (48 + a0)) % 256)]) (ok := fun _ => True) (okp := fun _ => True) ?hr ?hp (fun _ hk => hk) trivial (Below.refl _ _) (Nat.le_refl _) (by simp) ?_; (case hd => rfl); (case hg => rfl); (case hr => first | (go_simp; done) | (go_simp; rfl)); (case hp => exact (Reps.one (show Kd.M (Kd.int .u8) _ _ _ ((wrap64 (48 + a0)) % 256) [.int .u8 ((wrap64 (48 + a0)) % 256)] from rfl) (Reps.none _ _))); intro v112 w15 ho16 hb hg_ hnew_; clear hg_ hnew_; (first | rw [← Ny111.out] at ho16 | (simp only [Int.reduceToNat] at ho16; rw [← Ny111.out] at ho16)); have n0_ := Aside0.mk (Kd.R_lower ho16 (below_size (by repeat (first | (with_reducible first | exact HB.out | apply below_alloc | apply pw_below_drewN | apply below_drew1) | exact HB.out)))); have n1_ := Aside0.mk (below_step (by repeat (first | (with_reducible first | exact HB.out | apply below_alloc | apply pw_below_drewN | apply below_drew1) | exact HB.out)) hb); clear HB; have HO113 := n0_; have HB := n1_; clear n0_ n1_; clear hb ho16; have hcv17 := own_string (P := Try.prog) Try.underlying24 Try.underlying5 Try.underlying9 (Kd.own_of_R HO113.out)))
      go_ret
      exact ⟨by first | rfl | (simp [errW_none, errW_some] <;> rfl) | (simp [*, errW_none, errW_some] <;> rfl), by repeat (first | (with_reducible first | exact HB.out | apply below_alloc | apply pw_below_drewN | apply below_drew1) | exact HB.out)⟩
    · rw [if_neg c14] at H
      have c14b0 : decide (a0 < 10) = false := decide_eq_false c14
      clear c14
      replace H := Option.bind_eq_some_iff.mp H
      obtain ⟨t114, A180, H⟩ := H
      replace H : ((some (([(wrap64 (48 + (Int.tmod a0 10))) % 256] : List Int) : List Int)).bind fun y115 => (if t114.size + (strOfNums y115).size ≤ 9223372036854775807 then (some (t114 ++ (strOfNums y115))) else (none))) = some r := H
      have A18 := Aside0.mk A180
      clear A180
      obtain ⟨y115, hy115⟩ : ∃ y_ : List Int, y_ = (([(wrap64 (48 + (Int.tmod a0 10))) % 256] : List Int)) := ⟨_, rfl⟩
      replace H : (if t114.size + (strOfNums y115).size ≤ 9223372036854775807 then (some (t114 ++ (strOfNums y115))) else (none)) = some r := by first | (rw [hy115]; with_reducible exact H) | (have H2_ := (Option.bind_some _ _).symm.trans H; rw [hy115]; with_reducible exact H2_) | (have H2_ := (Option.bind_some _ _).symm.trans H; with_reducible exact H2_) | with_reducible exact H | (rw [hy115]; exact H) | exact H
      have Ny115 := Aside0.mk hy115
      clear hy115
      by_cases c19 : t114.size + (strOfNums y115).size ≤ 9223372036854775807
      · rw [if_pos c19] at H
        have c19b0 := eq_true c19
        have c19b1 : decide (t114.size + (strOfNums y115).size ≤ 9223372036854775807) = true := decide_eq_true c19
        try have c19b2 : (9223372036854775807 < t114.size + (strOfNums y115).size) = False := eq_false (Nat.not_lt.2 c19)
        obtain rfl := Option.some.inj H
        go_enter Try.func54, Try.ntmps54
        try go_wp2
        have n0_ := Aside0.mk (below_drew1 HB.out)
        clear HB
        have HB := n0_
        clear n0_
        refine start_ (n := 11) (S := fun w' => True) (ds := []) #[false, false, false, false, false, false, false, false, false, false, false] (by kernel_rfl) rfl rfl trivial (fun hHeld => ?_); refine with_tabW spec_Decimal.tab9 spec_Decimal.bits9 (fun HT_ HW_ => ?_)
        generalize w.drew = w20 at HB hHeld ⊢
        refine pure_ (i := 0) (N := some 32) (v := ?_) (a' := ?_) #[true, false, false, false, false, false, false, false, false, false, false] rfl rfl (any_of HT_.out (by kernel_rfl)) (fun _ _ _ h => h) (Or.inl ⟨by rfl, ?_⟩) ?_ ?_
        rotate_left
        · intro w'
          go_simp
          with_reducible rfl
        rotate_left
        · simp only [Act.put, List.setIfInBounds_toArray, List.set_cons_zero, List.set_cons_succ, i64_w, i32_w]
          rfl
        refine pure_ (i := 1) (N := some 33) (v := ?_) (a' := ?_) #[true, true, false, false, false, false, false, false, false, false, false] rfl rfl (any_of HT_.out (by kernel_rfl)) (fun _ _ _ h => h) (Or.inl ⟨by rfl, ?_⟩) ?_ ?_
        rotate_left
        · intro w'
          go_simp
          with_reducible rfl
        rotate_left
        · simp only [Act.put, List.setIfInBounds_toArray, List.set_cons_zero, List.set_cons_succ, i64_w, i32_w]
          rfl
        refine pure_ (i := 3) (N := some 35) (v := ?_) (a' := ?_) #[true, true, false, true, false, false, false, false, false, false, false] rfl rfl (any_of HT_.out (by kernel_rfl)) (fun _ _ _ h => h) (Or.inl ⟨by rfl, ?_⟩) ?_ ?_
        rotate_left
        · intro w'
          go_simp
          with_reducible rfl
        rotate_left
        · simp only [Act.put, List.setIfInBounds_toArray, List.set_cons_zero, List.set_cons_succ, i64_w, i32_w]
          rfl
        refine pure_ (i := 4) (N := some 36) (v := ?_) (a' := ?_) #[true, true, false, true, true, false, false, false, false, false, false] rfl rfl (any_of HT_.out (by kernel_rfl)) (fun _ _ _ h => h) (Or.inl ⟨by rfl, ?_⟩) ?_ ?_
        rotate_left
        · intro w'
          go_simp
          with_reducible rfl
        rotate_left
        · simp only [Act.put, List.setIfInBounds_toArray, List.set_cons_zero, List.set_cons_succ, i64_w, i32_w]
          rfl
        refine pure_ (i := 5) (N := some 37) (v := ?_) (a' := ?_) #[true, true, false, true, true, true, false, false, false, false, false] rfl rfl (any_of HT_.out (by kernel_rfl)) (fun _ _ _ h => h) (Or.inl ⟨by rfl, ?_⟩) ?_ ?_
        rotate_left
        · intro w'
          go_simp
          with_reducible rfl
        rotate_left
        · simp only [Act.put, List.setIfInBounds_toArray, List.set_cons_zero, List.set_cons_succ, i64_w, i32_w]
          rfl
        refine pure_ (i := 6) (N := some 38) (v := ?_) (a' := ?_) #[true, true, false, true, true, true, true, false, false, false, false] rfl rfl (any_of HT_.out (by kernel_rfl)) (fun _ _ _ h => h) (Or.inl ⟨by rfl, ?_⟩) ?_ ?_
        rotate_left
        · intro w'
          go_simp
          with_reducible rfl
        rotate_left
        · simp only [Act.put, List.setIfInBounds_toArray, List.set_cons_zero, List.set_cons_succ, i64_w, i32_w]
          rfl
        refine join_ (σ := Value) 2 #[true, true, true, true, true, true, true, true, true, false, false] (fun s_ => [(34, .string t114), (39, s_), (40, .string (strOfNums y115))]) (fun s_ w' => (Kd.R (Kd.int .u8) 5 w' w.heap.size (fun _ => True) s_ y115) ∧ (Below w.heap.size w w')) ?_ ?_
        rotate_left
        · intro hCont
          refine two_ (i := 2) (j := 7) (Ni := some 34) (Nj := some 39) #[true, true, true, true, true, true, true, false, false, false, false] #[true, true, false, true, true, true, true, true, false, false, false] rfl rfl rfl rfl (two_of HT_.out (by kernel_rfl)) (by decide) (by decide) (fun K hK => ?_) (fun K hK => ?_)
          · skip
            refine goes_ Try.func54 (by kernel_rfl) rfl #[.int .i64 (wrap64 (Int.tdiv a0 10))] (by rfl) rfl rfl (by (try simp only [List.map_toArray, List.map_cons, List.map_nil]); first | done | rfl | (simp only [List.length_drop, List.length_take]; rfl)) ?_
            with_reducible refine (ih k (by omega) (wrap64 (Int.tdiv a0 10)) t114 _ A18.out).mono ?_
            rintro e w21 ⟨rfl, hb⟩
            refine ⟨_, rfl, ?_⟩
            have n0_ := Aside0.mk (below_step (by repeat (first | (with_reducible first | exact HB.out | apply below_alloc | apply pw_below_drewN | apply below_drew1) | exact HB.out)) hb)
            clear HB
            have HB := n0_
            clear n0_
            (try clear hb)
            (try clear hb2)
            (try clear hk)
            (try clear hi)
            refine hK.out _ _ trivial (fun hHeld => ?_)
            clear hK K
            refine norm_ (a' := ?_) ?_ ?_
            rotate_left
            · show Act.put _ (some 34) _ = _
              simp only [Act.put, List.setIfInBounds_toArray, List.set_cons_zero, List.set_cons_succ, i64_w, i32_w]
              rfl
            refine one_ (i := 7) (N := some 39) #[true, true, true, true, true, true, true, true, false, false, false] rfl rfl (one_of HT_.out (by kernel_rfl)) (by decide) (fun K hK => ?_)
            refine Kd.R_lit_step (Kd.int .u8) _ 5 ?hg (N := 39) ?hd (xs := ([(wrap64 (48 + (Int.tmod a0 10))) % 256] : List Int)) (inner := [.int .u8 ((wrap64 (48 + (Int.tmod a0 10))) % 256)]) (ok := fun _ => True) (okp := fun _ => True) ?hr ?hp (fun _ hk => hk) trivial (Below.refl _ _) (Nat.le_refl _) (by simp) ?_; (case hd => rfl); (case hg => rfl); (case hr => first | (go_simp; done) | (go_simp; rfl)); (case hp => exact (Reps.one (show Kd.M (Kd.int .u8) _ _ _ ((wrap64 (48 + (Int.tmod a0 10))) % 256) [.int .u8 ((wrap64 (48 + (Int.tmod a0 10))) % 256)] from rfl) (Reps.none _ _)))
            intro v116 w22 ho23 hb hg_ hnew_
            clear hg_ hnew_
            (first | rw [← Ny115.out] at ho23 | (simp only [Int.reduceToNat] at ho23; rw [← Ny115.out] at ho23))
            have n0_ := Aside0.mk (Kd.R_lower ho23 (below_size (by repeat (first | (with_reducible first | exact HB.out | apply below_alloc | apply pw_below_drewN | apply below_drew1) | exact HB.out))))
            have n1_ := Aside0.mk (below_step (by repeat (first | (with_reducible first | exact HB.out | apply below_alloc | apply pw_below_drewN | apply below_drew1) | exact HB.out)) hb)
            clear HB
            have HO117 := n0_
            have HB := n1_
            clear n0_ n1_
            clear hb ho23
            refine hK.out _ _ trivial (fun hHeld => ?_)
            clear hK K
            refine norm_ (a' := ?_) ?_ ?_
            rotate_left
            · show Act.put _ (some 39) _ = _
              simp only [Act.put, List.setIfInBounds_toArray, List.set_cons_zero, List.set_cons_succ, i64_w, i32_w]
              rfl
            refine one_ (i := 8) (N := some 40) #[true, true, true, true, true, true, true, true, true, false, false] rfl rfl (one_of HT_.out (by kernel_rfl)) (by decide) (fun K hK => ?_)
            have hcv24 := own_string (P := Try.prog) Try.underlying24 Try.underlying5 Try.underlying9 (Kd.own_of_R HO117.out)
            refine value_ (w1 := ?_) (v := ?_) (by rfl) rfl ?_ ?_
            rotate_left 2
            · go_simp
              constructor
              · rfl
              · rfl
            clear hcv24
            refine hK.out _ _ trivial (fun hHeld => ?_)
            clear hK K
            refine norm_ (a' := ?_) ?_ ?_
            rotate_left
            · show Act.put _ (some 40) _ = _
              simp only [Act.put, List.setIfInBounds_toArray, List.set_cons_zero, List.set_cons_succ, i64_w, i32_w]
              rfl
            exact norm_ (by simp only [putAll, Act.put, List.setIfInBounds_toArray, List.set_cons_zero, List.set_cons_succ]) (hCont (v116) _ ⟨(by (with_reducible repeat (first | apply Kd.R_alloc | apply Kd.R_drewN | apply Kd.R_drew)); exact HO117.out), (by repeat (first | (with_reducible first | exact HB.out | apply below_alloc | apply pw_below_drewN | apply below_drew1) | exact HB.out))⟩)
          · skip
            refine Kd.R_lit_step (Kd.int .u8) _ 5 ?hg (N := 39) ?hd (xs := ([(wrap64 (48 + (Int.tmod a0 10))) % 256] : List Int)) (inner := [.int .u8 ((wrap64 (48 + (Int.tmod a0 10))) % 256)]) (ok := fun _ => True) (okp := fun _ => True) ?hr ?hp (fun _ hk => hk) trivial (Below.refl _ _) (Nat.le_refl _) (by simp) ?_; (case hd => rfl); (case hg => rfl); (case hr => first | (go_simp; done) | (go_simp; rfl)); (case hp => exact (Reps.one (show Kd.M (Kd.int .u8) _ _ _ ((wrap64 (48 + (Int.tmod a0 10))) % 256) [.int .u8 ((wrap64 (48 + (Int.tmod a0 10))) % 256)] from rfl) (Reps.none _ _)))
            intro v116 w21 ho22 hb hg_ hnew_
            clear hg_ hnew_
            (first | rw [← Ny115.out] at ho22 | (simp only [Int.reduceToNat] at ho22; rw [← Ny115.out] at ho22))
            have n0_ := Aside0.mk (Kd.R_lower ho22 (below_size (by repeat (first | (with_reducible first | exact HB.out | apply below_alloc | apply pw_below_drewN | apply below_drew1) | exact HB.out))))
            have n1_ := Aside0.mk (below_step (by repeat (first | (with_reducible first | exact HB.out | apply below_alloc | apply pw_below_drewN | apply below_drew1) | exact HB.out)) hb)
            clear HB
            have HO117 := n0_
            have HB := n1_
            clear n0_ n1_
            clear hb ho22
            refine hK.out _ _ trivial (fun hHeld => ?_)
            clear hK K
            refine norm_ (a' := ?_) ?_ ?_
            rotate_left
            · show Act.put _ (some 39) _ = _
              simp only [Act.put, List.setIfInBounds_toArray, List.set_cons_zero, List.set_cons_succ, i64_w, i32_w]
              rfl
            refine two_ (i := 2) (j := 8) (Ni := some 34) (Nj := some 40) #[true, true, true, true, true, true, true, true, false, false, false] #[true, true, false, true, true, true, true, true, true, false, false] rfl rfl rfl rfl (two_of HT_.out (by kernel_rfl)) (by decide) (by decide) (fun K hK => ?_) (fun K hK => ?_)
            · skip
              refine goes_ Try.func54 (by kernel_rfl) rfl #[.int .i64 (wrap64 (Int.tdiv a0 10))] (by rfl) rfl rfl (by (try simp only [List.map_toArray, List.map_cons, List.map_nil]); first | done | rfl | (simp only [List.length_drop, List.length_take]; rfl)) ?_
              with_reducible refine (ih k (by omega) (wrap64 (Int.tdiv a0 10)) t114 _ A18.out).mono ?_
              rintro e w23 ⟨rfl, hb⟩
              refine ⟨_, rfl, ?_⟩
              have n0_ := Aside0.mk (Kd.R_below (by (with_reducible repeat (first | apply Kd.R_alloc | apply Kd.R_drewN | apply Kd.R_drew)); exact HO117.out) hb)
              have n1_ := Aside0.mk (below_step (by repeat (first | (with_reducible first | exact HB.out | apply below_alloc | apply pw_below_drewN | apply below_drew1) | exact HB.out)) hb)
              clear HO117
              clear HB
              have HO117 := n0_
              have HB := n1_
              clear n0_ n1_
              (try clear hb)
              (try clear hb2)
              (try clear hk)
              (try clear hi)
              refine hK.out _ _ trivial (fun hHeld => ?_)
              clear hK K
              refine norm_ (a' := ?_) ?_ ?_
              rotate_left
              · show Act.put _ (some 34) _ = _
                simp only [Act.put, List.setIfInBounds_toArray, List.set_cons_zero, List.set_cons_succ, i64_w, i32_w]
                rfl
              refine one_ (i := 8) (N := some 40) #[true, true, true, true, true, true, true, true, true, false, false] rfl rfl (one_of HT_.out (by kernel_rfl)) (by decide) (fun K hK => ?_)
              have hcv24 := own_string (P := Try.prog) Try.underlying24 Try.underlying5 Try.underlying9 (Kd.own_of_R HO117.out)
              refine value_ (w1 := ?_) (v := ?_) (by rfl) rfl ?_ ?_
              rotate_left 2
              · go_simp
                constructor
                · rfl
                · rfl
              clear hcv24
              refine hK.out _ _ trivial (fun hHeld => ?_)
              clear hK K
              refine norm_ (a' := ?_) ?_ ?_
              rotate_left
              · show Act.put _ (some 40) _ = _
                simp only [Act.put, List.setIfInBounds_toArray, List.set_cons_zero, List.set_cons_succ, i64_w, i32_w]
                rfl
              exact norm_ (by simp only [putAll, Act.put, List.setIfInBounds_toArray, List.set_cons_zero, List.set_cons_succ]) (hCont (v116) _ ⟨(by (with_reducible repeat (first | apply Kd.R_alloc | apply Kd.R_drewN | apply Kd.R_drew)); exact HO117.out), (by repeat (first | (with_reducible first | exact HB.out | apply below_alloc | apply pw_below_drewN | apply below_drew1) | exact HB.out))⟩)
            · skip
              have hcv23 := own_string (P := Try.prog) Try.underlying24 Try.underlying5 Try.underlying9 (Kd.own_of_R HO117.out)
              refine value_ (w1 := ?_) (v := ?_) (by rfl) rfl ?_ ?_
              rotate_left 2
              · go_simp
                constructor
                · rfl
                · rfl
              clear hcv23
              refine hK.out _ _ trivial (fun hHeld => ?_)
              clear hK K
              refine norm_ (a' := ?_) ?_ ?_
              rotate_left
              · show Act.put _ (some 40) _ = _
                simp only [Act.put, List.setIfInBounds_toArray, List.set_cons_zero, List.set_cons_succ, i64_w, i32_w]
                rfl
              refine one_ (i := 2) (N := some 34) #[true, true, true, true, true, true, true, true, true, false, false] rfl rfl (one_of HT_.out (by kernel_rfl)) (by decide) (fun K hK => ?_)
              refine goes_ Try.func54 (by kernel_rfl) rfl #[.int .i64 (wrap64 (Int.tdiv a0 10))] (by rfl) rfl rfl (by (try simp only [List.map_toArray, List.map_cons, List.map_nil]); first | done | rfl | (simp only [List.length_drop, List.length_take]; rfl)) ?_
              with_reducible refine (ih k (by omega) (wrap64 (Int.tdiv a0 10)) t114 _ A18.out).mono ?_
              rintro e w24 ⟨rfl, hb⟩
              refine ⟨_, rfl, ?_⟩
              have n0_ := Aside0.mk (Kd.R_below (by (with_reducible repeat (first | apply Kd.R_alloc | apply Kd.R_drewN | apply Kd.R_drew)); exact HO117.out) hb)
              have n1_ := Aside0.mk (below_step (by repeat (first | (with_reducible first | exact HB.out | apply below_alloc | apply pw_below_drewN | apply below_drew1) | exact HB.out)) hb)
              clear HO117
              clear HB
              have HO117 := n0_
              have HB := n1_
              clear n0_ n1_
              (try clear hb)
              (try clear hb2)
              (try clear hk)
              (try clear hi)
              refine hK.out _ _ trivial (fun hHeld => ?_)
              clear hK K
              refine norm_ (a' := ?_) ?_ ?_
              rotate_left
              · show Act.put _ (some 34) _ = _
                simp only [Act.put, List.setIfInBounds_toArray, List.set_cons_zero, List.set_cons_succ, i64_w, i32_w]
                rfl
              exact norm_ (by simp only [putAll, Act.put, List.setIfInBounds_toArray, List.set_cons_zero, List.set_cons_succ]) (hCont (v116) _ ⟨(by (with_reducible repeat (first | apply Kd.R_alloc | apply Kd.R_drewN | apply Kd.R_drew)); exact HO117.out), (by repeat (first | (with_reducible first | exact HB.out | apply below_alloc | apply pw_below_drewN | apply below_drew1) | exact HB.out))⟩)
        rintro v116 w25 ⟨h0_, h1_⟩
        have n0_ : Aside0 (Kd.R (Kd.int .u8) 5 w25 w.heap.size (fun _ => True) v116 y115) := ⟨h0_⟩
        have n1_ : Aside0 (Below w.heap.size w w25) := ⟨h1_⟩
        clear HB
        clear h0_ h1_
        have HO117 := n0_
        have HB := n1_
        clear n0_ n1_
        have hHeld := trivial
        refine norm_ (a' := ?_) ?_ ?_
        rotate_left
        · simp only [putAll, Act.put, List.setIfInBounds_toArray, List.set_cons_zero, List.set_cons_succ]
          rfl
        refine pure_ (i := 9) (N := some 41) (v := ?_) (a' := ?_) #[true, true, true, true, true, true, true, true, true, true, false] rfl rfl (any_of HT_.out (by kernel_rfl)) (fun _ _ _ h => h) (Or.inl ⟨by rfl, ?_⟩) ?_ ?_
        rotate_left
        · intro w'
          go_simp
          with_reducible rfl
        rotate_left
        · simp only [Act.put, List.setIfInBounds_toArray, List.set_cons_zero, List.set_cons_succ, i64_w, i32_w]
          rfl
        refine pure_ (i := 10) (N := some 2) (v := ?_) (a' := ?_) #[true, true, true, true, true, true, true, true, true, true, true] rfl rfl (any_of HT_.out (by kernel_rfl)) (fun _ _ _ h => h) (Or.inl ⟨by rfl, ?_⟩) ?_ ?_
        rotate_left
        · intro w'
          go_simp
          with_reducible rfl
        rotate_left
        · simp only [Act.put, List.setIfInBounds_toArray, List.set_cons_zero, List.set_cons_succ, i64_w, i32_w]
          rfl
        refine done_ (done_of HT_.out (by kernel_rfl)) ?_
        try go_wp2
        go_ret
        exact ⟨by first | rfl | (simp [errW_none, errW_some] <;> rfl) | (simp [*, errW_none, errW_some] <;> rfl), by repeat (first | (with_reducible first | exact HB.out | apply below_alloc | apply pw_below_drewN | apply below_drew1) | exact HB.out)⟩
      · rw [if_neg c19] at H
        exact absurd H (by simp)

/-! ### spec_separated: function 33 -/
mutual
def spec_separated.l0 : Nat → List ByteArray → Int → ByteArray → Bool → Int → ByteArray → Int → Option (ByteArray)
  | 0, _, _, _, _, _, _, _ => none
  | k + 1, x0, x1, x2, x3, x4, x11, x12 => if x12 < (x0.length : Int) then (if x12 = 0 then (spec_separated.j1 k x0 x1 x2 x3 x4 x11 x12 x3) else (spec_separated.j1 k x0 x1 x2 x3 x4 x11 x12 false)) else (spec_separated.l1 k x1 x2 x11 (x0.length : Int))
def spec_separated.j1 : Nat → List ByteArray → Int → ByteArray → Bool → Int → ByteArray → Int → Bool → Option (ByteArray)
  | 0, _, _, _, _, _, _, _, _ => none
  | k + 1, x0, x1, x2, x3, x4, x11, x12, x24 => if x24 = true then ((spec_Decimal.f k x4).bind fun t118 => (if t118.size + x2.size ≤ 9223372036854775807 then (if x12 > 0 then (if (t118 ++ x2).size + x2.size ≤ 9223372036854775807 then (if 0 ≤ x12 then (if x12 < (x0.length : Int) then (if ((t118 ++ x2) ++ x2).size + (rdOf ByteArray.empty x0 x12).size ≤ 9223372036854775807 then (spec_separated.l0 k x0 x1 x2 x3 x4 (((t118 ++ x2) ++ x2) ++ (rdOf ByteArray.empty x0 x12)) (wrap64 (x12 + 1))) else (none)) else (none)) else (none)) else (none)) else (if 0 ≤ x12 then (if x12 < (x0.length : Int) then (if (t118 ++ x2).size + (rdOf ByteArray.empty x0 x12).size ≤ 9223372036854775807 then (spec_separated.l0 k x0 x1 x2 x3 x4 ((t118 ++ x2) ++ (rdOf ByteArray.empty x0 x12)) (wrap64 (x12 + 1))) else (none)) else (none)) else (none))) else (none))) else (if x12 > 0 then (if x11.size + x2.size ≤ 9223372036854775807 then (if 0 ≤ x12 then (if x12 < (x0.length : Int) then (if (x11 ++ x2).size + (rdOf ByteArray.empty x0 x12).size ≤ 9223372036854775807 then (spec_separated.l0 k x0 x1 x2 x3 x4 ((x11 ++ x2) ++ (rdOf ByteArray.empty x0 x12)) (wrap64 (x12 + 1))) else (none)) else (none)) else (none)) else (none)) else (if 0 ≤ x12 then (if x12 < (x0.length : Int) then (if x11.size + (rdOf ByteArray.empty x0 x12).size ≤ 9223372036854775807 then (spec_separated.l0 k x0 x1 x2 x3 x4 (x11 ++ (rdOf ByteArray.empty x0 x12)) (wrap64 (x12 + 1))) else (none)) else (none)) else (none)))
def spec_separated.l1 : Nat → Int → ByteArray → ByteArray → Int → Option (ByteArray)
  | 0, _, _, _, _ => none
  | k + 1, x1, x2, x11, x13 => if x13 < x1 then (if x11.size + x2.size ≤ 9223372036854775807 then (spec_separated.l1 k x1 x2 (x11 ++ x2) (wrap64 (x13 + 1))) else (none)) else (some x11)
end
def spec_separated.f (k : Nat) (l0 : List ByteArray) (a1 : Int) (a2 : ByteArray) (a3 : Bool) (a4 : Int) : Option (ByteArray) := spec_separated.l0 k l0 a1 a2 a3 a4 (⟨#[]⟩ : ByteArray) 0
theorem spec_separated.mono_l : ∀ k, (∀ y0 y1 y2 y3 y4 y5 y6, LeO (spec_separated.l0 k y0 y1 y2 y3 y4 y5 y6) (spec_separated.l0 (k + 1) y0 y1 y2 y3 y4 y5 y6)) ∧ (∀ y0 y1 y2 y3 y4 y5 y6 y7, LeO (spec_separated.j1 k y0 y1 y2 y3 y4 y5 y6 y7) (spec_separated.j1 (k + 1) y0 y1 y2 y3 y4 y5 y6 y7)) ∧ (∀ y0 y1 y2 y3, LeO (spec_separated.l1 k y0 y1 y2 y3) (spec_separated.l1 (k + 1) y0 y1 y2 y3))
  | 0 => ⟨fun _ _ _ _ _ _ _ r h => by simp [spec_separated.l0] at h, fun _ _ _ _ _ _ _ _ r h => by simp [spec_separated.j1] at h, fun _ _ _ _ r h => by simp [spec_separated.l1] at h⟩
  | k + 1 => by
    obtain ⟨ih0, ih1, ih2⟩ := spec_separated.mono_l k
    refine ⟨?_, ?_, ?_⟩
    · intro y0 y1 y2 y3 y4 y5 y6
      unfold spec_separated.l0
      repeat' first
      | (with_reducible exact ih0 _ _ _ _ _ _ _)
      | (with_reducible exact ih1 _ _ _ _ _ _ _ _)
      | (with_reducible exact ih2 _ _ _ _)
      | (with_reducible exact spec_Decimal.mono _ _)
      | (with_reducible exact LeO.refl _)
      | (with_reducible exact LeO.none _)
      | (with_reducible refine LeO.ite ?_ ?_)
      | (with_reducible refine LeO.bind ?_ (fun _ => ?_))
      | exact ih0 _ _ _ _ _ _ _
      | exact ih1 _ _ _ _ _ _ _ _
      | exact ih2 _ _ _ _
      | exact spec_Decimal.mono _ _
      | exact LeO.none _
      | refine LeO.ite ?_ ?_
      | refine LeO.bind ?_ (fun _ => ?_)
    · intro y0 y1 y2 y3 y4 y5 y6 y7
      unfold spec_separated.j1
      repeat' first
      | (with_reducible exact ih0 _ _ _ _ _ _ _)
      | (with_reducible exact ih1 _ _ _ _ _ _ _ _)
      | (with_reducible exact ih2 _ _ _ _)
      | (with_reducible exact spec_Decimal.mono _ _)
      | (with_reducible exact LeO.refl _)
      | (with_reducible exact LeO.none _)
      | (with_reducible refine LeO.ite ?_ ?_)
      | (with_reducible refine LeO.bind ?_ (fun _ => ?_))
      | exact ih0 _ _ _ _ _ _ _
      | exact ih1 _ _ _ _ _ _ _ _
      | exact ih2 _ _ _ _
      | exact spec_Decimal.mono _ _
      | exact LeO.none _
      | refine LeO.ite ?_ ?_
      | refine LeO.bind ?_ (fun _ => ?_)
    · intro y0 y1 y2 y3
      unfold spec_separated.l1
      repeat' first
      | (with_reducible exact ih0 _ _ _ _ _ _ _)
      | (with_reducible exact ih1 _ _ _ _ _ _ _ _)
      | (with_reducible exact ih2 _ _ _ _)
      | (with_reducible exact spec_Decimal.mono _ _)
      | (with_reducible exact LeO.refl _)
      | (with_reducible exact LeO.none _)
      | (with_reducible refine LeO.ite ?_ ?_)
      | (with_reducible refine LeO.bind ?_ (fun _ => ?_))
      | exact ih0 _ _ _ _ _ _ _
      | exact ih1 _ _ _ _ _ _ _ _
      | exact ih2 _ _ _ _
      | exact spec_Decimal.mono _ _
      | exact LeO.none _
      | refine LeO.ite ?_ ?_
      | refine LeO.bind ?_ (fun _ => ?_)
theorem spec_separated.mono : ∀ a0 a1 a2 a3 a4 k, LeO (spec_separated.f k a0 a1 a2 a3 a4) (spec_separated.f (k + 1) a0 a1 a2 a3 a4) := by
  intro a0 a1 a2 a3 a4 k
  obtain ⟨ih0, ih1, ih2⟩ := spec_separated.mono_l k
  unfold spec_separated.f
  repeat' first
      | (with_reducible exact ih0 _ _ _ _ _ _ _)
      | (with_reducible exact ih1 _ _ _ _ _ _ _ _)
      | (with_reducible exact ih2 _ _ _ _)
      | (with_reducible exact spec_Decimal.mono _ _)
      | (with_reducible exact LeO.refl _)
      | (with_reducible exact LeO.none _)
      | (with_reducible refine LeO.ite ?_ ?_)
      | (with_reducible refine LeO.bind ?_ (fun _ => ?_))
      | exact ih0 _ _ _ _ _ _ _
      | exact ih1 _ _ _ _ _ _ _ _
      | exact ih2 _ _ _ _
      | exact spec_Decimal.mono _ _
      | exact LeO.none _
      | refine LeO.ite ?_ ?_
      | refine LeO.bind ?_ (fun _ => ?_)
set_option maxHeartbeats 8000000 in
set_option maxRecDepth 100000 in
theorem spec_separated.calls (k : Nat) (A0 : Option Addr) (c0 : Nat) (l0 : List ByteArray) (a1 : Int) (a2 : ByteArray) (a3 : Bool) (a4 : Int) (r : ByteArray) (w : World) (hr0 : Kd.C Kd.string w A0 l0.length l0) (hc0 : l0.length ≤ c0) (h : spec_separated.f k l0 a1 a2 a3 a4 = some r) :
    Calls Try.prog 33 #[.slice A0 l0.length c0, .int .i64 a1, .string a2, .bool a3, .int .i64 a4] w fun e w' => e = .returned (.string r) ∧ Below w.heap.size w w' := by
  have HR0 := Aside0.mk hr0
  have HC0 := Aside0.mk hc0
  clear hr0 hc0
  have HB := Aside0.mk (Below.refl w.heap.size w)
  have H : (spec_separated.l0 k l0 a1 a2 a3 a4 (⟨#[]⟩ : ByteArray) 0) = some r := h
  clear h
  have H' := Aside0.mk H
  clear H
  go_enter Try.func33, Try.ntmps33
  go_wp2
  go_loopg [11, 12] k (fun kq v11 v12 w' => ∃ (x11_1 : ByteArray) (x12_1 : Int), v11 = .string x11_1 ∧ v12 = .int .i64 x12_1 ∧ Aside0 (spec_separated.l0 kq l0 a1 a2 a3 a4 x11_1 x12_1 = some r) ∧ Aside0 (kq ≤ k) ∧ Aside0 (Below w.heap.size w w'))
  case atStart => exact ⟨((⟨#[]⟩ : ByteArray)), (0), (by first | rfl | (simp; done) | (simp [*]; done)), (by first | rfl | (simp; done) | (simp [*]; done)), H', ⟨Nat.le_refl _⟩, ⟨by repeat (first | (with_reducible first | exact HB.out | apply below_alloc | apply pw_below_drewN | apply below_drew1) | exact HB.out)⟩⟩
  case round =>
    clear H'
    try clear p2
    try clear c3
    obtain ⟨x11_1, x12_1, rfl, rfl, HA, HK1, HB⟩ := hrel
    cases gk with
    | zero => exact absurd HA.out (by simp [spec_separated.l0])
    | succ k1 =>
      have H := HA.out
      clear HA
      simp only [spec_separated.l0] at H
      by_cases c6 : x12_1 < (l0.length : Int)
      · rw [if_pos c6] at H
        have c6b0 : decide (x12_1 < (l0.length : Int)) = true := decide_eq_true c6
        clear c6
        have HC7 := Aside0.mk H
        clear H
        go_upto_region 5 with (fail)
        go_cut [24] (fun v24 wc => ∃ (kq : Nat) (x24_6 : Bool), v24 = .bool x24_6 ∧ Aside0 (spec_separated.j1 kq l0 a1 a2 a3 a4 x11_1 x12_1 x24_6 = some r) ∧ Aside0 (kq ≤ k1) ∧ Aside0 (Below w.heap.size w wc))
        case first =>
          have H := HC7.out
          clear HC7
          by_cases c8 : x12_1 = 0
          · rw [if_pos c8] at H
            have c8b0 : (x12_1 == 0) = true := beq_iff_eq.mpr c8
            have c8b1 : (x12_1 != 0) = false := bne_eq_false_iff_eq.mpr c8
            clear c8
            (first | rw [c8b0] | (simp only [i64_w, i32_w]; rw [c8b0]) | skip)
            have H' := Aside0.mk H
            clear H
            go_wp2
            go_meet
            case rel => exact ⟨_, (a3), (by first | rfl | (simp; done) | (simp [*]; done)), H', ⟨by have := HK1.out; first | omega | exact Nat.le_refl _⟩, ⟨by repeat (first | (with_reducible first | exact HB.out | apply below_alloc | apply pw_below_drewN | apply below_drew1) | exact HB.out)⟩⟩
          · rw [if_neg c8] at H
            have c8b0 : (x12_1 == 0) = false := beq_eq_false_iff_ne.mpr c8
            have c8b1 : (x12_1 != 0) = true := bne_iff_ne.mpr c8
            (first | rw [c8b0] | (simp only [i64_w, i32_w]; rw [c8b0]) | skip)
            have H' := Aside0.mk H
            clear H
            go_wp2
            go_meet
            case rel => exact ⟨_, (false), (by first | rfl | (simp; done) | (simp [*]; done)), H', ⟨by have := HK1.out; first | omega | exact Nat.le_refl _⟩, ⟨by repeat (first | (with_reducible first | exact HB.out | apply below_alloc | apply pw_below_drewN | apply below_drew1) | exact HB.out)⟩⟩
        case rest =>
          clear HC7
          try clear p2
          try clear c3
          try clear c6
          try clear c6b0
          try clear c8
          try clear c8b0
          try clear c8b1
          try clear p2
          obtain ⟨kq, x24_6, rfl, HA, HJ6, HB⟩ := hcut
          cases kq with
          | zero => exact absurd HA.out (by simp [spec_separated.j1])
          | succ kj6 =>
            have H := HA.out
            clear HA
            simp only [spec_separated.j1] at H
            by_cases c9 : x24_6 = true
            · subst c9
              have H1 : ((spec_Decimal.f kj6 a4).bind fun t118 => (if t118.size + a2.size ≤ 9223372036854775807 then (if x12_1 > 0 then (if (t118 ++ a2).size + a2.size ≤ 9223372036854775807 then (if 0 ≤ x12_1 then (if x12_1 < (l0.length : Int) then (if ((t118 ++ a2) ++ a2).size + (rdOf ByteArray.empty l0 x12_1).size ≤ 9223372036854775807 then (spec_separated.l0 kj6 l0 a1 a2 a3 a4 (((t118 ++ a2) ++ a2) ++ (rdOf ByteArray.empty l0 x12_1)) (wrap64 (x12_1 + 1))) else (none)) else (none)) else (none)) else (none)) else (if 0 ≤ x12_1 then (if x12_1 < (l0.length : Int) then (if (t118 ++ a2).size + (rdOf ByteArray.empty l0 x12_1).size ≤ 9223372036854775807 then (spec_separated.l0 kj6 l0 a1 a2 a3 a4 ((t118 ++ a2) ++ (rdOf ByteArray.empty l0 x12_1)) (wrap64 (x12_1 + 1))) else (none)) else (none)) else (none))) else (none))) = some r := by rw [if_pos rfl] at H; exact H
              clear H
              have H := H1
              clear H1
              replace H := Option.bind_eq_some_iff.mp H
              obtain ⟨t118, A100, H⟩ := H
              replace H : (if t118.size + a2.size ≤ 9223372036854775807 then (if x12_1 > 0 then (if (t118 ++ a2).size + a2.size ≤ 9223372036854775807 then (if 0 ≤ x12_1 then (if x12_1 < (l0.length : Int) then (if ((t118 ++ a2) ++ a2).size + (rdOf ByteArray.empty l0 x12_1).size ≤ 9223372036854775807 then (spec_separated.l0 kj6 l0 a1 a2 a3 a4 (((t118 ++ a2) ++ a2) ++ (rdOf ByteArray.empty l0 x12_1)) (wrap64 (x12_1 + 1))) else (none)) else (none)) else (none)) else (none)) else (if 0 ≤ x12_1 then (if x12_1 < (l0.length : Int) then (if (t118 ++ a2).size + (rdOf ByteArray.empty l0 x12_1).size ≤ 9223372036854775807 then (spec_separated.l0 kj6 l0 a1 a2 a3 a4 ((t118 ++ a2) ++ (rdOf ByteArray.empty l0 x12_1)) (wrap64 (x12_1 + 1))) else (none)) else (none)) else (none))) else (none)) = some r := H
              have A10 := Aside0.mk A100
              clear A100
              by_cases c11 : t118.size + a2.size ≤ 9223372036854775807
              · rw [if_pos c11] at H
                have c11b0 := eq_true c11
                have c11b1 : decide (t118.size + a2.size ≤ 9223372036854775807) = true := decide_eq_true c11
                try have c11b2 : (9223372036854775807 < t118.size + a2.size) = False := eq_false (Nat.not_lt.2 c11)
                by_cases c12 : x12_1 > 0
                · rw [if_pos c12] at H
                  have c12b0 : decide (0 < x12_1) = true := decide_eq_true c12
                  clear c12
                  by_cases c13 : (t118 ++ a2).size + a2.size ≤ 9223372036854775807
                  · rw [if_pos c13] at H
                    have c13b0 := eq_true c13
                    have c13b1 : decide ((t118 ++ a2).size + a2.size ≤ 9223372036854775807) = true := decide_eq_true c13
                    try have c13b2 : (9223372036854775807 < (t118 ++ a2).size + a2.size) = False := eq_false (Nat.not_lt.2 c13)
                    try have c13b3 : (9223372036854775807 < t118.size + a2.size + a2.size) = False := eq_false (Nat.not_lt.2 (by have z_ := c13; simp only [ByteArray.size_append] at z_; exact z_))
                    by_cases c14 : 0 ≤ x12_1
                    · rw [if_pos c14] at H
                      have c14b0 : decide (0 ≤ x12_1) = true := decide_eq_true c14
                      clear c14
                      by_cases c15 : x12_1 < (l0.length : Int)
                      · rw [if_pos c15] at H
                        have c15b0 : decide (x12_1 < (l0.length : Int)) = true := decide_eq_true c15
                        clear c15
                        by_cases c16 : ((t118 ++ a2) ++ a2).size + (rdOf ByteArray.empty l0 x12_1).size ≤ 9223372036854775807
                        · rw [if_pos c16] at H
                          have c16b0 := eq_true c16
                          have c16b1 : decide (((t118 ++ a2) ++ a2).size + (rdOf ByteArray.empty l0 x12_1).size ≤ 9223372036854775807) = true := decide_eq_true c16
                          try have c16b2 : (9223372036854775807 < ((t118 ++ a2) ++ a2).size + (rdOf ByteArray.empty l0 x12_1).size) = False := eq_false (Nat.not_lt.2 c16)
                          try have c16b3 : (9223372036854775807 < t118.size + a2.size + a2.size + (rdOf ByteArray.empty l0 x12_1).size) = False := eq_false (Nat.not_lt.2 (by have z_ := c16; simp only [ByteArray.size_append] at z_; exact z_))
                          have H' := Aside0.mk H
                          clear H
                          go_wp2_with (first | ((with_reducible refine gate_callee (f := 54) rfl ?_); refine goesL_ (some 26) rfl rfl Try.func54 (by kernel_rfl) rfl #[.int .i64 a4] rfl (by (try simp only [List.map_toArray, List.map_cons, List.map_nil]); first | done | rfl | (simp only [List.length_drop, List.length_take]; rfl)) ?_; (with_reducible refine (spec_Decimal.calls kj6 a4 t118 _ A10.out).mono ?_); rintro e w17 ⟨rfl, hb⟩; refine ⟨_, rfl, ?_⟩; have n0_ := Aside0.mk (below_step (by repeat (first | (with_reducible first | exact HB.out | apply below_alloc | apply pw_below_drewN | apply below_drew1) | exact HB.out)) hb); clear HB; have HB := n0_; clear n0_; (try clear hb); (try clear hb2); (try clear hk); (try clear hi); have p119 : 0 ≤ (x12_1 : Int) := of_decide_eq_true (by first | (with_reducible assumption) | assumption); have q119 : x12_1 < (l0.length : Int) := of_decide_eq_true (by first | (with_reducible assumption) | assumption); obtain ⟨ad119, e119, hx119_0⟩ := Kd.at_string HR0.out x12_1 p119 q119; cases e119; replace hx119_0 := (HB.out.cell (World.block_lt_of_cell? w _ hx119_0)).trans hx119_0; (try simp only [Go.IntWalk.toNatUp] at hx119_0); replace p119 := eq_true p119; replace q119 := eq_true q119))
                          go_roundg kj6
                          case measure => have := HK1.out; have := HJ6.out; omega
                          case rel => exact ⟨(((t118 ++ a2) ++ a2) ++ (rdOf ByteArray.empty l0 x12_1)), (wrap64 (x12_1 + 1)), (by first | rfl | (simp; done) | (simp [*]; done)), (by first | rfl | (simp; done) | (simp [*]; done)), H', ⟨by have := HK1.out; have := HJ6.out; omega⟩, ⟨by repeat (first | (with_reducible first | exact HB.out | apply below_alloc | apply pw_below_drewN | apply below_drew1) | exact HB.out)⟩⟩
                        · rw [if_neg c16] at H
                          exact absurd H (by simp)
                      · rw [if_neg c15] at H
                        exact absurd H (by simp)
                    · rw [if_neg c14] at H
                      exact absurd H (by simp)
                  · rw [if_neg c13] at H
                    exact absurd H (by simp)
                · rw [if_neg c12] at H
                  have c12b0 : decide (0 < x12_1) = false := decide_eq_false c12
                  clear c12
                  by_cases c18 : 0 ≤ x12_1
                  · rw [if_pos c18] at H
                    have c18b0 : decide (0 ≤ x12_1) = true := decide_eq_true c18
                    clear c18
                    by_cases c19 : x12_1 < (l0.length : Int)
                    · rw [if_pos c19] at H
                      have c19b0 : decide (x12_1 < (l0.length : Int)) = true := decide_eq_true c19
                      clear c19
                      by_cases c20 : (t118 ++ a2).size + (rdOf ByteArray.empty l0 x12_1).size ≤ 9223372036854775807
                      · rw [if_pos c20] at H
                        have c20b0 := eq_true c20
                        have c20b1 : decide ((t118 ++ a2).size + (rdOf ByteArray.empty l0 x12_1).size ≤ 9223372036854775807) = true := decide_eq_true c20
                        try have c20b2 : (9223372036854775807 < (t118 ++ a2).size + (rdOf ByteArray.empty l0 x12_1).size) = False := eq_false (Nat.not_lt.2 c20)
                        try have c20b3 : (9223372036854775807 < t118.size + a2.size + (rdOf ByteArray.empty l0 x12_1).size) = False := eq_false (Nat.not_lt.2 (by have z_ := c20; simp only [ByteArray.size_append] at z_; exact z_))
                        have H' := Aside0.mk H
                        clear H
                        go_wp2_with (first | ((with_reducible refine gate_callee (f := 54) rfl ?_); refine goesL_ (some 26) rfl rfl Try.func54 (by kernel_rfl) rfl #[.int .i64 a4] rfl (by (try simp only [List.map_toArray, List.map_cons, List.map_nil]); first | done | rfl | (simp only [List.length_drop, List.length_take]; rfl)) ?_; (with_reducible refine (spec_Decimal.calls kj6 a4 t118 _ A10.out).mono ?_); rintro e w21 ⟨rfl, hb⟩; refine ⟨_, rfl, ?_⟩; have n0_ := Aside0.mk (below_step (by repeat (first | (with_reducible first | exact HB.out | apply below_alloc | apply pw_below_drewN | apply below_drew1) | exact HB.out)) hb); clear HB; have HB := n0_; clear n0_; (try clear hb); (try clear hb2); (try clear hk); (try clear hi); have p120 : 0 ≤ (x12_1 : Int) := of_decide_eq_true (by first | (with_reducible assumption) | assumption); have q120 : x12_1 < (l0.length : Int) := of_decide_eq_true (by first | (with_reducible assumption) | assumption); obtain ⟨ad120, e120, hx120_0⟩ := Kd.at_string HR0.out x12_1 p120 q120; cases e120; replace hx120_0 := (HB.out.cell (World.block_lt_of_cell? w _ hx120_0)).trans hx120_0; (try simp only [Go.IntWalk.toNatUp] at hx120_0); replace p120 := eq_true p120; replace q120 := eq_true q120))
                        go_roundg kj6
                        case measure => have := HK1.out; have := HJ6.out; omega
                        case rel => exact ⟨((t118 ++ a2) ++ (rdOf ByteArray.empty l0 x12_1)), (wrap64 (x12_1 + 1)), (by first | rfl | (simp; done) | (simp [*]; done)), (by first | rfl | (simp; done) | (simp [*]; done)), H', ⟨by have := HK1.out; have := HJ6.out; omega⟩, ⟨by repeat (first | (with_reducible first | exact HB.out | apply below_alloc | apply pw_below_drewN | apply below_drew1) | exact HB.out)⟩⟩
                      · rw [if_neg c20] at H
                        exact absurd H (by simp)
                    · rw [if_neg c19] at H
                      exact absurd H (by simp)
                  · rw [if_neg c18] at H
                    exact absurd H (by simp)
              · rw [if_neg c11] at H
                exact absurd H (by simp)
            · replace c9 := Bool.eq_false_iff.mpr c9
              subst c9
              have H1 : (if x12_1 > 0 then (if x11_1.size + a2.size ≤ 9223372036854775807 then (if 0 ≤ x12_1 then (if x12_1 < (l0.length : Int) then (if (x11_1 ++ a2).size + (rdOf ByteArray.empty l0 x12_1).size ≤ 9223372036854775807 then (spec_separated.l0 kj6 l0 a1 a2 a3 a4 ((x11_1 ++ a2) ++ (rdOf ByteArray.empty l0 x12_1)) (wrap64 (x12_1 + 1))) else (none)) else (none)) else (none)) else (none)) else (if 0 ≤ x12_1 then (if x12_1 < (l0.length : Int) then (if x11_1.size + (rdOf ByteArray.empty l0 x12_1).size ≤ 9223372036854775807 then (spec_separated.l0 kj6 l0 a1 a2 a3 a4 (x11_1 ++ (rdOf ByteArray.empty l0 x12_1)) (wrap64 (x12_1 + 1))) else (none)) else (none)) else (none))) = some r := by rw [if_neg (show ¬ (false = true) by decide)] at H; exact H
              clear H
              have H := H1
              clear H1
              by_cases c22 : x12_1 > 0
              · rw [if_pos c22] at H
                have c22b0 : decide (0 < x12_1) = true := decide_eq_true c22
                clear c22
                by_cases c23 : x11_1.size + a2.size ≤ 9223372036854775807
                · rw [if_pos c23] at H
                  have c23b0 := eq_true c23
                  have c23b1 : decide (x11_1.size + a2.size ≤ 9223372036854775807) = true := decide_eq_true c23
                  try have c23b2 : (9223372036854775807 < x11_1.size + a2.size) = False := eq_false (Nat.not_lt.2 c23)
                  by_cases c24 : 0 ≤ x12_1
                  · rw [if_pos c24] at H
                    have c24b0 : decide (0 ≤ x12_1) = true := decide_eq_true c24
                    clear c24
                    by_cases c25 : x12_1 < (l0.length : Int)
                    · rw [if_pos c25] at H
                      have c25b0 : decide (x12_1 < (l0.length : Int)) = true := decide_eq_true c25
                      clear c25
                      by_cases c26 : (x11_1 ++ a2).size + (rdOf ByteArray.empty l0 x12_1).size ≤ 9223372036854775807
                      · rw [if_pos c26] at H
                        have c26b0 := eq_true c26
                        have c26b1 : decide ((x11_1 ++ a2).size + (rdOf ByteArray.empty l0 x12_1).size ≤ 9223372036854775807) = true := decide_eq_true c26
                        try have c26b2 : (9223372036854775807 < (x11_1 ++ a2).size + (rdOf ByteArray.empty l0 x12_1).size) = False := eq_false (Nat.not_lt.2 c26)
                        try have c26b3 : (9223372036854775807 < x11_1.size + a2.size + (rdOf ByteArray.empty l0 x12_1).size) = False := eq_false (Nat.not_lt.2 (by have z_ := c26; simp only [ByteArray.size_append] at z_; exact z_))
                        have H' := Aside0.mk H
                        clear H
                        have p121 : 0 ≤ (x12_1 : Int) := of_decide_eq_true (by first | (with_reducible assumption) | assumption)
                        have q121 : x12_1 < (l0.length : Int) := of_decide_eq_true (by first | (with_reducible assumption) | assumption)
                        obtain ⟨ad121, e121, hx121_0⟩ := Kd.at_string HR0.out x12_1 p121 q121
                        cases e121
                        replace hx121_0 := (HB.out.cell (World.block_lt_of_cell? w _ hx121_0)).trans hx121_0
                        (try simp only [Go.IntWalk.toNatUp] at hx121_0)
                        replace p121 := eq_true p121
                        replace q121 := eq_true q121
                        go_wp2
                        go_roundg kj6
                        case measure => have := HK1.out; have := HJ6.out; omega
                        case rel => exact ⟨((x11_1 ++ a2) ++ (rdOf ByteArray.empty l0 x12_1)), (wrap64 (x12_1 + 1)), (by first | rfl | (simp; done) | (simp [*]; done)), (by first | rfl | (simp; done) | (simp [*]; done)), H', ⟨by have := HK1.out; have := HJ6.out; omega⟩, ⟨by repeat (first | (with_reducible first | exact HB.out | apply below_alloc | apply pw_below_drewN | apply below_drew1) | exact HB.out)⟩⟩
                      · rw [if_neg c26] at H
                        exact absurd H (by simp)
                    · rw [if_neg c25] at H
                      exact absurd H (by simp)
                  · rw [if_neg c24] at H
                    exact absurd H (by simp)
                · rw [if_neg c23] at H
                  exact absurd H (by simp)
              · rw [if_neg c22] at H
                have c22b0 : decide (0 < x12_1) = false := decide_eq_false c22
                clear c22
                by_cases c27 : 0 ≤ x12_1
                · rw [if_pos c27] at H
                  have c27b0 : decide (0 ≤ x12_1) = true := decide_eq_true c27
                  clear c27
                  by_cases c28 : x12_1 < (l0.length : Int)
                  · rw [if_pos c28] at H
                    have c28b0 : decide (x12_1 < (l0.length : Int)) = true := decide_eq_true c28
                    clear c28
                    by_cases c29 : x11_1.size + (rdOf ByteArray.empty l0 x12_1).size ≤ 9223372036854775807
                    · rw [if_pos c29] at H
                      have c29b0 := eq_true c29
                      have c29b1 : decide (x11_1.size + (rdOf ByteArray.empty l0 x12_1).size ≤ 9223372036854775807) = true := decide_eq_true c29
                      try have c29b2 : (9223372036854775807 < x11_1.size + (rdOf ByteArray.empty l0 x12_1).size) = False := eq_false (Nat.not_lt.2 c29)
                      have H' := Aside0.mk H
                      clear H
                      have p122 : 0 ≤ (x12_1 : Int) := of_decide_eq_true (by first | (with_reducible assumption) | assumption)
                      have q122 : x12_1 < (l0.length : Int) := of_decide_eq_true (by first | (with_reducible assumption) | assumption)
                      obtain ⟨ad122, e122, hx122_0⟩ := Kd.at_string HR0.out x12_1 p122 q122
                      cases e122
                      replace hx122_0 := (HB.out.cell (World.block_lt_of_cell? w _ hx122_0)).trans hx122_0
                      (try simp only [Go.IntWalk.toNatUp] at hx122_0)
                      replace p122 := eq_true p122
                      replace q122 := eq_true q122
                      go_wp2
                      go_roundg kj6
                      case measure => have := HK1.out; have := HJ6.out; omega
                      case rel => exact ⟨(x11_1 ++ (rdOf ByteArray.empty l0 x12_1)), (wrap64 (x12_1 + 1)), (by first | rfl | (simp; done) | (simp [*]; done)), (by first | rfl | (simp; done) | (simp [*]; done)), H', ⟨by have := HK1.out; have := HJ6.out; omega⟩, ⟨by repeat (first | (with_reducible first | exact HB.out | apply below_alloc | apply pw_below_drewN | apply below_drew1) | exact HB.out)⟩⟩
                    · rw [if_neg c29] at H
                      exact absurd H (by simp)
                  · rw [if_neg c28] at H
                    exact absurd H (by simp)
                · rw [if_neg c27] at H
                  exact absurd H (by simp)
      · rw [if_neg c6] at H
        have c6b0 : decide (x12_1 < (l0.length : Int)) = false := decide_eq_false c6
        clear c6
        have H' := Aside0.mk H
        clear H
        go_wp2
        go_loopg [11, 13] k1 (fun kq v11 v13 w' => ∃ (x11_2 : ByteArray) (x13_2 : Int), v11 = .string x11_2 ∧ v13 = .int .i64 x13_2 ∧ Aside0 (spec_separated.l1 kq a1 a2 x11_2 x13_2 = some r) ∧ Aside0 (kq ≤ k1) ∧ Aside0 (Below w.heap.size w w'))
        case atStart => exact ⟨(x11_1), ((l0.length : Int)), (by first | rfl | (simp; done) | (simp [*]; done)), (by first | rfl | (simp; done) | (simp [*]; done)), H', ⟨Nat.le_refl _⟩, ⟨by repeat (first | (with_reducible first | exact HB.out | apply below_alloc | apply pw_below_drewN | apply below_drew1) | exact HB.out)⟩⟩
        case round =>
          clear H'
          try clear c1
          try clear p1
          try clear q1
          try clear hx1
          try clear c2
          try clear p2
          try clear c3
          try clear c5
          try clear c6
          try clear c6b0
          try clear p6
          try clear c8
          try clear c8b0
          try clear c8b1
          try clear c9
          try clear c11
          try clear c11b0
          try clear c11b1
          try clear c11b2
          try clear p11
          try clear q11
          try clear hx11
          try clear c12
          try clear c12b0
          try clear p12
          try clear q12
          try clear hx12
          try clear c13
          try clear c13b0
          try clear c13b1
          try clear c13b2
          try clear c14
          try clear c14b0
          try clear c15
          try clear c15b0
          try clear c16
          try clear c16b0
          try clear c16b1
          try clear c16b2
          try clear c18
          try clear c18b0
          try clear c19
          try clear c19b0
          try clear c20
          try clear c20b0
          try clear c20b1
          try clear c20b2
          try clear c22
          try clear c22b0
          try clear c23
          try clear c23b0
          try clear c23b1
          try clear c23b2
          try clear c24
          try clear c24b0
          try clear c25
          try clear c25b0
          try clear c26
          try clear c26b0
          try clear c26b1
          try clear c26b2
          try clear c27
          try clear c27b0
          try clear c28
          try clear c28b0
          try clear c29
          try clear c29b0
          try clear c29b1
          try clear c29b2
          try clear hx119_0
          try clear hx120_0
          try clear hx121_0
          try clear hx122_0
          try clear p119
          try clear p120
          try clear p121
          try clear p122
          try clear p2
          try clear q119
          try clear q120
          try clear q121
          try clear q122
          obtain ⟨x11_2, x13_2, rfl, rfl, HA, HK2, HB⟩ := hrel
          cases gk with
          | zero => exact absurd HA.out (by simp [spec_separated.l1])
          | succ k2 =>
            have H := HA.out
            clear HA
            simp only [spec_separated.l1] at H
            by_cases c30 : x13_2 < a1
            · rw [if_pos c30] at H
              have c30b0 : decide (x13_2 < a1) = true := decide_eq_true c30
              clear c30
              by_cases c31 : x11_2.size + a2.size ≤ 9223372036854775807
              · rw [if_pos c31] at H
                have c31b0 := eq_true c31
                have c31b1 : decide (x11_2.size + a2.size ≤ 9223372036854775807) = true := decide_eq_true c31
                try have c31b2 : (9223372036854775807 < x11_2.size + a2.size) = False := eq_false (Nat.not_lt.2 c31)
                have H' := Aside0.mk H
                clear H
                go_wp2
                go_roundg k2
                case measure => have := HK1.out; have := HK2.out; omega
                case rel => exact ⟨(x11_2 ++ a2), (wrap64 (x13_2 + 1)), (by first | rfl | (simp; done) | (simp [*]; done)), (by first | rfl | (simp; done) | (simp [*]; done)), H', ⟨by have := HK1.out; have := HK2.out; omega⟩, ⟨by repeat (first | (with_reducible first | exact HB.out | apply below_alloc | apply pw_below_drewN | apply below_drew1) | exact HB.out)⟩⟩
              · rw [if_neg c31] at H
                exact absurd H (by simp)
            · rw [if_neg c30] at H
              have c30b0 : decide (x13_2 < a1) = false := decide_eq_false c30
              clear c30
              obtain rfl := Option.some.inj H
              go_wp2
              go_ret
              exact ⟨by first | rfl | (simp [errW_none, errW_some] <;> rfl) | (simp [*, errW_none, errW_some] <;> rfl), by repeat (first | (with_reducible first | exact HB.out | apply below_alloc | apply pw_below_drewN | apply below_drew1) | exact HB.out)⟩

end Go.Proofs.Ytimefacdnabkdab.PFnTsvRow
