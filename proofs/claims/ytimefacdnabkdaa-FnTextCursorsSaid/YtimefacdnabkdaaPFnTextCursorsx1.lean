-- Written by hprint.py, a program of this session
import Derived.Test.YtimefacdnabkdaaPFnTextCursorsx0
namespace Go.Proofs.Ytimefacdnabkdaa.PFnTextCursors
open Go.RowKit Go.Proofs.Ytimefacdnabkdaa.Hand Go.Proofs.YtimefacdnabkdaaW.PrintWords Go.Proofs.YtimefacdnabkdaaW.PrintLast Go.Proofs.YtimefacdnabkdaaW.PrintMore
attribute [local go_sem] max2_int min2_int max_two min_two max_three min_three max_four min_four   -- for this text's walks alone
set_option linter.unusedVariables false
set_option linter.unusedSimpArgs false

/-! ### text_Cursor_Sprint: function 31 -/
def text_Cursor_Sprint.f (a0 : Int) : Option (ByteArray) := if 2 + (Go.Utf8.encode a0).size ≤ 9223372036854775807 then (some ((⟨#[27, 91]⟩ : ByteArray) ++ (Go.Utf8.encode a0))) else (none)
set_option maxHeartbeats 8000000 in
set_option maxRecDepth 100000 in
theorem text_Cursor_Sprint.calls (a0 : Int) (r : ByteArray) (w : World) (h : text_Cursor_Sprint.f a0 = some r) :
    Calls Try.prog 31 #[.int .i32 a0] w fun e w' => e = .returned (.string r) ∧ Drawn0 w w' := by
  have H : (if 2 + (Go.Utf8.encode a0).size ≤ 9223372036854775807 then (some ((⟨#[27, 91]⟩ : ByteArray) ++ (Go.Utf8.encode a0))) else (none)) = some r := h
  clear h
  by_cases c2 : 2 + (Go.Utf8.encode a0).size ≤ 9223372036854775807
  · rw [if_pos c2] at H
    have c2b0 := eq_true c2
    have c2b1 : decide (2 + (Go.Utf8.encode a0).size ≤ 9223372036854775807) = true := decide_eq_true c2
    try have c2b2 : (9223372036854775807 < 2 + (Go.Utf8.encode a0).size) = False := eq_false (Nat.not_lt.2 c2)
    obtain rfl := Option.some.inj H
    go_enter Try.func31, Try.ntmps31
    go_wp2
    go_ret
    exact ⟨by first | rfl | (simp; done) | (simp [*]; done), by repeat (first | exact Drawn0.refl _ | apply Drawn0.step)⟩
  · rw [if_neg c2] at H
    exact absurd H (by simp)

-- BY HAND: function 34 (lightstrconv_FormatUint)

/-! ### lightstrconv_FormatInt: function 33 -/
def lightstrconv_FormatInt.f (a0 : Int) (a1 : Int) : Option (ByteArray) := if a0 < 0 then ((lightstrconv_FormatUint.f (IntKind.u64.wrap (-(IntKind.u64.wrap (a0)))) a1).bind fun t101 => (if 1 + t101.size ≤ 9223372036854775807 then (some ((⟨#[45]⟩ : ByteArray) ++ t101)) else (none))) else ((lightstrconv_FormatUint.f (IntKind.u64.wrap (a0)) a1).bind fun t102 => (some t102))
set_option maxHeartbeats 8000000 in
set_option maxRecDepth 100000 in
theorem lightstrconv_FormatInt.calls (a0 : Int) (a1 : Int) (r : ByteArray) (w : World) (h : lightstrconv_FormatInt.f a0 a1 = some r) :
    Calls Try.prog 33 #[.int .i64 a0, .int .i64 a1] w fun e w' => e = .returned (.string r) ∧ Below w.heap.size w w' := by
  have HB := Aside0.mk (Below.refl w.heap.size w)
  have H : (if a0 < 0 then ((lightstrconv_FormatUint.f (IntKind.u64.wrap (-(IntKind.u64.wrap (a0)))) a1).bind fun t101 => (if 1 + t101.size ≤ 9223372036854775807 then (some ((⟨#[45]⟩ : ByteArray) ++ t101)) else (none))) else ((lightstrconv_FormatUint.f (IntKind.u64.wrap (a0)) a1).bind fun t102 => (some t102))) = some r := h
  clear h
  by_cases c3 : a0 < 0
  · rw [if_pos c3] at H
    have c3b0 : decide (a0 < 0) = true := decide_eq_true c3
    clear c3
    replace H := Option.bind_eq_some_iff.mp H
    obtain ⟨t101, A40, H⟩ := H
    replace H : (if 1 + t101.size ≤ 9223372036854775807 then (some ((⟨#[45]⟩ : ByteArray) ++ t101)) else (none)) = some r := H
    have A4 := Aside0.mk A40
    clear A40
    by_cases c5 : 1 + t101.size ≤ 9223372036854775807
    · rw [if_pos c5] at H
      have c5b0 := eq_true c5
      have c5b1 : decide (1 + t101.size ≤ 9223372036854775807) = true := decide_eq_true c5
      try have c5b2 : (9223372036854775807 < 1 + t101.size) = False := eq_false (Nat.not_lt.2 c5)
      obtain rfl := Option.some.inj H
      go_enter Try.func33, Try.ntmps33
      go_wp2_with (first | ((with_reducible refine gate_callee (f := 34) rfl ?_); refine goesL_ (some 11) rfl rfl Try.func34 (by kernel_rfl) rfl #[.int .u64 (IntKind.u64.wrap (-(IntKind.u64.wrap (a0)))), .int .i64 a1] rfl (by (try simp only [List.map_toArray, List.map_cons, List.map_nil]); first | done | rfl | (simp only [List.length_drop, List.length_take]; rfl)) ?_; (with_reducible refine (lightstrconv_FormatUint.calls (IntKind.u64.wrap (-(IntKind.u64.wrap (a0)))) a1 t101 _ A4.out).mono ?_); rintro e w6 ⟨rfl, hb⟩; refine ⟨_, rfl, ?_⟩; have n0_ := Aside0.mk (below_step (by repeat (first | (with_reducible first | exact HB.out | apply below_alloc | apply pw_below_drewN | apply below_drew1) | exact HB.out)) hb); clear HB; have HB := n0_; clear n0_; (try clear hb); (try clear hb2); (try clear hk); (try clear hi)))
      go_ret
      exact ⟨by first | rfl | (simp [errW_none, errW_some] <;> rfl) | (simp [*, errW_none, errW_some] <;> rfl), by repeat (first | (with_reducible first | exact HB.out | apply below_alloc | apply pw_below_drewN | apply below_drew1) | exact HB.out)⟩
    · rw [if_neg c5] at H
      exact absurd H (by simp)
  · rw [if_neg c3] at H
    have c3b0 : decide (a0 < 0) = false := decide_eq_false c3
    clear c3
    replace H := Option.bind_eq_some_iff.mp H
    obtain ⟨t102, A70, H⟩ := H
    replace H : (some t102) = some r := H
    have A7 := Aside0.mk A70
    clear A70
    obtain rfl := Option.some.inj H
    go_enter Try.func33, Try.ntmps33
    go_wp2_with (first | ((with_reducible refine gate_callee (f := 34) rfl ?_); refine goesL_ (some 16) rfl rfl Try.func34 (by kernel_rfl) rfl #[.int .u64 (IntKind.u64.wrap (a0)), .int .i64 a1] rfl (by (try simp only [List.map_toArray, List.map_cons, List.map_nil]); first | done | rfl | (simp only [List.length_drop, List.length_take]; rfl)) ?_; (with_reducible refine (lightstrconv_FormatUint.calls (IntKind.u64.wrap (a0)) a1 t102 _ A7.out).mono ?_); rintro e w8 ⟨rfl, hb⟩; refine ⟨_, rfl, ?_⟩; have n0_ := Aside0.mk (below_step (by repeat (first | (with_reducible first | exact HB.out | apply below_alloc | apply pw_below_drewN | apply below_drew1) | exact HB.out)) hb); clear HB; have HB := n0_; clear n0_; (try clear hb); (try clear hb2); (try clear hk); (try clear hi)))
    go_ret
    exact ⟨by first | rfl | (simp [errW_none, errW_some] <;> rfl) | (simp [*, errW_none, errW_some] <;> rfl), by repeat (first | (with_reducible first | exact HB.out | apply below_alloc | apply pw_below_drewN | apply below_drew1) | exact HB.out)⟩

/-! ### lightstrconv_Itoa: function 32 -/
def lightstrconv_Itoa.f (a0 : Int) : Option (ByteArray) := (lightstrconv_FormatInt.f a0 10).bind fun t103 => (some t103)
set_option maxHeartbeats 8000000 in
set_option maxRecDepth 100000 in
theorem lightstrconv_Itoa.calls (a0 : Int) (r : ByteArray) (w : World) (h : lightstrconv_Itoa.f a0 = some r) :
    Calls Try.prog 32 #[.int .i64 a0] w fun e w' => e = .returned (.string r) ∧ Below w.heap.size w w' := by
  have HB := Aside0.mk (Below.refl w.heap.size w)
  have H : ((lightstrconv_FormatInt.f a0 10).bind fun t103 => (some t103)) = some r := h
  clear h
  replace H := Option.bind_eq_some_iff.mp H
  obtain ⟨t103, A20, H⟩ := H
  replace H : (some t103) = some r := H
  have A2 := Aside0.mk A20
  clear A20
  obtain rfl := Option.some.inj H
  go_enter Try.func32, Try.ntmps32
  go_wp2_with (first | ((with_reducible refine gate_callee (f := 33) rfl ?_); refine goesL_ (some 4) rfl rfl Try.func33 (by kernel_rfl) rfl #[.int .i64 a0, .int .i64 10] rfl (by (try simp only [List.map_toArray, List.map_cons, List.map_nil]); first | done | rfl | (simp only [List.length_drop, List.length_take]; rfl)) ?_; (with_reducible refine (lightstrconv_FormatInt.calls a0 10 t103 _ A2.out).mono ?_); rintro e w3 ⟨rfl, hb⟩; refine ⟨_, rfl, ?_⟩; have n0_ := Aside0.mk (below_step (by repeat (first | (with_reducible first | exact HB.out | apply below_alloc | apply pw_below_drewN | apply below_drew1) | exact HB.out)) hb); clear HB; have HB := n0_; clear n0_; (try clear hb); (try clear hb2); (try clear hk); (try clear hi)))
  go_ret
  exact ⟨by first | rfl | (simp [errW_none, errW_some] <;> rfl) | (simp [*, errW_none, errW_some] <;> rfl), by repeat (first | (with_reducible first | exact HB.out | apply below_alloc | apply pw_below_drewN | apply below_drew1) | exact HB.out)⟩

/-! ### text_Cursor_Sprintn: function 30 -/
def text_Cursor_Sprintn.f (a0 : Int) (a1 : Int) : Option (ByteArray) := if a0 = 75 then ((text_Cursor_Sprint.f a0).bind fun t104 => (some t104)) else ((lightstrconv_Itoa.f a1).bind fun t105 => (if 2 + t105.size ≤ 9223372036854775807 then (if ((⟨#[27, 91]⟩ : ByteArray) ++ t105).size + (Go.Utf8.encode a0).size ≤ 9223372036854775807 then (some (((⟨#[27, 91]⟩ : ByteArray) ++ t105) ++ (Go.Utf8.encode a0))) else (none)) else (none)))
set_option maxHeartbeats 8000000 in
set_option maxRecDepth 100000 in
theorem text_Cursor_Sprintn.calls (a0 : Int) (a1 : Int) (r : ByteArray) (w : World) (h : text_Cursor_Sprintn.f a0 a1 = some r) :
    Calls Try.prog 30 #[.int .i32 a0, .int .i64 a1] w fun e w' => e = .returned (.string r) ∧ Below w.heap.size w w' := by
  have HB := Aside0.mk (Below.refl w.heap.size w)
  have H : (if a0 = 75 then ((text_Cursor_Sprint.f a0).bind fun t104 => (some t104)) else ((lightstrconv_Itoa.f a1).bind fun t105 => (if 2 + t105.size ≤ 9223372036854775807 then (if ((⟨#[27, 91]⟩ : ByteArray) ++ t105).size + (Go.Utf8.encode a0).size ≤ 9223372036854775807 then (some (((⟨#[27, 91]⟩ : ByteArray) ++ t105) ++ (Go.Utf8.encode a0))) else (none)) else (none)))) = some r := h
  clear h
  by_cases c3 : a0 = 75
  · rw [if_pos c3] at H
    have c3b0 : (a0 == 75) = true := beq_iff_eq.mpr c3
    have c3b1 : (a0 != 75) = false := bne_eq_false_iff_eq.mpr c3
    clear c3
    replace H := Option.bind_eq_some_iff.mp H
    obtain ⟨t104, A40, H⟩ := H
    replace H : (some t104) = some r := H
    have A4 := Aside0.mk A40
    clear A40
    obtain rfl := Option.some.inj H
    go_enter Try.func30, Try.ntmps30
    go_wp2_with (first | ((with_reducible refine gate_callee (f := 31) rfl ?_); refine goesL_ (some 8) rfl rfl Try.func31 (by kernel_rfl) rfl #[.int .i32 a0] rfl (by (try simp only [List.map_toArray, List.map_cons, List.map_nil]); first | done | rfl | (simp only [List.length_drop, List.length_take]; rfl)) ?_; (with_reducible refine (text_Cursor_Sprint.calls a0 t104 _ A4.out).mono ?_); rintro e w' ⟨rfl, ⟨nd, rfl⟩⟩; refine ⟨_, rfl, ?_⟩))
    go_ret
    exact ⟨by first | rfl | (simp [errW_none, errW_some] <;> rfl) | (simp [*, errW_none, errW_some] <;> rfl), by repeat (first | (with_reducible first | exact HB.out | apply below_alloc | apply pw_below_drewN | apply below_drew1) | exact HB.out)⟩
  · rw [if_neg c3] at H
    have c3b0 : (a0 == 75) = false := beq_eq_false_iff_ne.mpr c3
    have c3b1 : (a0 != 75) = true := bne_iff_ne.mpr c3
    replace H := Option.bind_eq_some_iff.mp H
    obtain ⟨t105, A50, H⟩ := H
    replace H : (if 2 + t105.size ≤ 9223372036854775807 then (if ((⟨#[27, 91]⟩ : ByteArray) ++ t105).size + (Go.Utf8.encode a0).size ≤ 9223372036854775807 then (some (((⟨#[27, 91]⟩ : ByteArray) ++ t105) ++ (Go.Utf8.encode a0))) else (none)) else (none)) = some r := H
    have A5 := Aside0.mk A50
    clear A50
    by_cases c6 : 2 + t105.size ≤ 9223372036854775807
    · rw [if_pos c6] at H
      have c6b0 := eq_true c6
      have c6b1 : decide (2 + t105.size ≤ 9223372036854775807) = true := decide_eq_true c6
      try have c6b2 : (9223372036854775807 < 2 + t105.size) = False := eq_false (Nat.not_lt.2 c6)
      by_cases c7 : ((⟨#[27, 91]⟩ : ByteArray) ++ t105).size + (Go.Utf8.encode a0).size ≤ 9223372036854775807
      · rw [if_pos c7] at H
        have c7b0 := eq_true c7
        have c7b1 : decide (((⟨#[27, 91]⟩ : ByteArray) ++ t105).size + (Go.Utf8.encode a0).size ≤ 9223372036854775807) = true := decide_eq_true c7
        try have c7b2 : (9223372036854775807 < ((⟨#[27, 91]⟩ : ByteArray) ++ t105).size + (Go.Utf8.encode a0).size) = False := eq_false (Nat.not_lt.2 c7)
        obtain rfl := Option.some.inj H
        go_enter Try.func30, Try.ntmps30
        go_wp2_with (first | ((with_reducible refine gate_callee (f := 32) rfl ?_); refine goesL_ (some 10) rfl rfl Try.func32 (by kernel_rfl) rfl #[.int .i64 a1] rfl (by (try simp only [List.map_toArray, List.map_cons, List.map_nil]); first | done | rfl | (simp only [List.length_drop, List.length_take]; rfl)) ?_; (with_reducible refine (lightstrconv_Itoa.calls a1 t105 _ A5.out).mono ?_); rintro e w8 ⟨rfl, hb⟩; refine ⟨_, rfl, ?_⟩; have n0_ := Aside0.mk (below_step (by repeat (first | (with_reducible first | exact HB.out | apply below_alloc | apply pw_below_drewN | apply below_drew1) | exact HB.out)) hb); clear HB; have HB := n0_; clear n0_; (try clear hb); (try clear hb2); (try clear hk); (try clear hi)))
        go_ret
        exact ⟨by first | rfl | (simp [errW_none, errW_some] <;> rfl) | (simp [*, errW_none, errW_some] <;> rfl), by repeat (first | (with_reducible first | exact HB.out | apply below_alloc | apply pw_below_drewN | apply below_drew1) | exact HB.out)⟩
      · rw [if_neg c7] at H
        exact absurd H (by simp)
    · rw [if_neg c6] at H
      exact absurd H (by simp)

/-! ### impl_TextCursors: function 18 -/
def impl_TextCursors.f (a0 : Int) (a1 : Int) : Option (ByteArray) := (text_Cursor_Sprintn.f a0 a1).bind fun t106 => (some t106)
set_option maxHeartbeats 8000000 in
set_option maxRecDepth 100000 in
theorem impl_TextCursors.calls (a0 : Int) (a1 : Int) (r : ByteArray) (w : World) (h : impl_TextCursors.f a0 a1 = some r) :
    Calls Try.prog 18 #[.int .i32 a0, .int .i64 a1] w fun e w' => e = .returned (.string r) ∧ Below w.heap.size w w' := by
  have HB := Aside0.mk (Below.refl w.heap.size w)
  have H : ((text_Cursor_Sprintn.f a0 a1).bind fun t106 => (some t106)) = some r := h
  clear h
  replace H := Option.bind_eq_some_iff.mp H
  obtain ⟨t106, A30, H⟩ := H
  replace H : (some t106) = some r := H
  have A3 := Aside0.mk A30
  clear A30
  obtain rfl := Option.some.inj H
  go_enter Try.func18, Try.ntmps18
  go_wp2_with (first | ((with_reducible refine gate_callee (f := 30) rfl ?_); refine goesL_ (some 7) rfl rfl Try.func30 (by kernel_rfl) rfl #[.int .i32 a0, .int .i64 a1] rfl (by (try simp only [List.map_toArray, List.map_cons, List.map_nil]); first | done | rfl | (simp only [List.length_drop, List.length_take]; rfl)) ?_; (with_reducible refine (text_Cursor_Sprintn.calls a0 a1 t106 _ A3.out).mono ?_); rintro e w4 ⟨rfl, hb⟩; refine ⟨_, rfl, ?_⟩; have n0_ := Aside0.mk (below_step (by repeat (first | (with_reducible first | exact HB.out | apply below_alloc | apply pw_below_drewN | apply below_drew1) | exact HB.out)) hb); clear HB; have HB := n0_; clear n0_; (try clear hb); (try clear hb2); (try clear hk); (try clear hi)))
  go_ret
  exact ⟨by first | rfl | (simp [errW_none, errW_some] <;> rfl) | (simp [*, errW_none, errW_some] <;> rfl), by repeat (first | (with_reducible first | exact HB.out | apply below_alloc | apply pw_below_drewN | apply below_drew1) | exact HB.out)⟩

/-! ### spec_Decimal: function 19 -/
def spec_Decimal.f : Nat → Int → Option (ByteArray)
  | 0, _ => none
  | k + 1, a0 => if a0 < 0 then (if a0 > (-10) then ((some (([(wrap64 (48 - a0)) % 256] : List Int) : List Int)).bind fun y107 => (if 1 + (strOfNums y107).size ≤ 9223372036854775807 then (some ((⟨#[45]⟩ : ByteArray) ++ (strOfNums y107))) else (none))) else ((some (([(wrap64 (48 - (Int.tmod a0 10))) % 256] : List Int) : List Int)).bind fun y110 => ((spec_Decimal.f k (wrap64 (Int.tdiv a0 10))).bind fun t113 => (if t113.size + (strOfNums y110).size ≤ 9223372036854775807 then (some (t113 ++ (strOfNums y110))) else (none))))) else (if a0 < 10 then (some (strOfNums (([(wrap64 (48 + a0)) % 256] : List Int)))) else ((spec_Decimal.f k (wrap64 (Int.tdiv a0 10))).bind fun t117 => ((some (([(wrap64 (48 + (Int.tmod a0 10))) % 256] : List Int) : List Int)).bind fun y118 => (if t117.size + (strOfNums y118).size ≤ 9223372036854775807 then (some (t117 ++ (strOfNums y118))) else (none)))))
theorem spec_Decimal.mono_l : ∀ k, (∀ y0, LeO (spec_Decimal.f k y0) (spec_Decimal.f (k + 1) y0))
  | 0 => fun _ r h => by simp [spec_Decimal.f] at h
  | k + 1 => by
    have ih0 := spec_Decimal.mono_l k
    · intro y0
      unfold spec_Decimal.f
      repeat' first
      | (with_reducible exact ih0 _)
      | (with_reducible exact LeO.refl _)
      | (with_reducible exact LeO.none _)
      | (with_reducible refine LeO.ite ?_ ?_)
      | (with_reducible refine LeO.bind ?_ (fun _ => ?_))
      | exact ih0 _
      | exact LeO.none _
      | refine LeO.ite ?_ ?_
      | refine LeO.bind ?_ (fun _ => ?_)
theorem spec_Decimal.mono : ∀ a0 k, LeO (spec_Decimal.f k a0) (spec_Decimal.f (k + 1) a0) := by
  intro a0 k
  have ih0 := spec_Decimal.mono_l k
  exact ih0 a0
def spec_Decimal.T9 : Bool × List (List Nat × List Nat) := (true, [([], []), ([0], [0]), ([1], [1]), ([], []), ([3], [3]), ([4], [4]), ([5], [5]), ([6], [6]), ([7], [7]), ([2, 8], [2, 8]), ([9, 2, 0, 1, 2, 3, 4, 5, 6, 7, 8, 9], [9])])
def spec_Decimal.B9 : List Nat := [0, 1, 3, 0, 8, 24, 56, 120, 248, 511, 1023]
theorem spec_Decimal.tab9 : rtab .any (opsOf Try.f19 9) = spec_Decimal.T9 := by kernel_rfl
theorem spec_Decimal.bits9 : waitsOk spec_Decimal.T9.2 spec_Decimal.B9 = true := by kernel_rfl
set_option maxHeartbeats 8000000 in
set_option maxRecDepth 100000 in
theorem spec_Decimal.calls (k : Nat) : ∀ (a0 : Int) (r : ByteArray) (w : World) (h : spec_Decimal.f k a0 = some r),
    Calls Try.prog 19 #[.int .i64 a0] w fun e w' => e = .returned (.string r) ∧ Below w.heap.size w w' := by
  induction k using Nat.strongRecOn with
  | _ k ih =>
  intro a0 r w h
  cases k with
  | zero => exact absurd h (by simp [spec_Decimal.f])
  | succ k =>
  simp only [spec_Decimal.f] at h
  have HB := Aside0.mk (Below.refl w.heap.size w)
  have H : (if a0 < 0 then (if a0 > (-10) then ((some (([(wrap64 (48 - a0)) % 256] : List Int) : List Int)).bind fun y107 => (if 1 + (strOfNums y107).size ≤ 9223372036854775807 then (some ((⟨#[45]⟩ : ByteArray) ++ (strOfNums y107))) else (none))) else ((some (([(wrap64 (48 - (Int.tmod a0 10))) % 256] : List Int) : List Int)).bind fun y110 => ((spec_Decimal.f k (wrap64 (Int.tdiv a0 10))).bind fun t113 => (if t113.size + (strOfNums y110).size ≤ 9223372036854775807 then (some (t113 ++ (strOfNums y110))) else (none))))) else (if a0 < 10 then (some (strOfNums (([(wrap64 (48 + a0)) % 256] : List Int)))) else ((spec_Decimal.f k (wrap64 (Int.tdiv a0 10))).bind fun t117 => ((some (([(wrap64 (48 + (Int.tmod a0 10))) % 256] : List Int) : List Int)).bind fun y118 => (if t117.size + (strOfNums y118).size ≤ 9223372036854775807 then (some (t117 ++ (strOfNums y118))) else (none)))))) = some r := h
  clear h
  by_cases c2 : a0 < 0
  · rw [if_pos c2] at H
    have c2b0 : decide (a0 < 0) = true := decide_eq_true c2
    clear c2
    by_cases c3 : a0 > (-10)
    · rw [if_pos c3] at H
      have c3b0 : decide ((-10) < a0) = true := decide_eq_true c3
      clear c3
      obtain ⟨y107, hy107⟩ : ∃ y_ : List Int, y_ = (([(wrap64 (48 - a0)) % 256] : List Int)) := ⟨_, rfl⟩
      replace H : (if 1 + (strOfNums y107).size ≤ 9223372036854775807 then (some ((⟨#[45]⟩ : ByteArray) ++ (strOfNums y107))) else (none)) = some r := by first | (rw [hy107]; with_reducible exact H) | (have H2_ := (Option.bind_some _ _).symm.trans H; rw [hy107]; with_reducible exact H2_) | (have H2_ := (Option.bind_some _ _).symm.trans H; with_reducible exact H2_) | with_reducible exact H | (rw [hy107]; exact H) | exact H
      have Ny107 := Aside0.mk hy107
      clear hy107
      by_cases c4 : 1 + (strOfNums y107).size ≤ 9223372036854775807
      · rw [if_pos c4] at H
        have c4b0 := eq_true c4
        have c4b1 : decide (1 + (strOfNums y107).size ≤ 9223372036854775807) = true := decide_eq_true c4
        try have c4b2 : (9223372036854775807 < 1 + (strOfNums y107).size) = False := eq_false (Nat.not_lt.2 c4)
        obtain rfl := Option.some.inj H
        go_enter Try.func19, Try.ntmps19
        go_wp2_with (first | ((with_reducible refine gate_dst (N := 11) rfl ?_); refine Kd.R_lit (Kd.int .u8) _ 5 ?hg (N := 11) ?hd (xs := ([(wrap64 (48 - a0)) % 256] : List Int)) (inner := [.int .u8 ((wrap64 (48 - a0)) % 256)]) (ok := fun _ => True) (okp := fun _ => True) ?hr ?hp (fun _ hk => hk) trivial (Below.refl _ _) (Nat.le_refl _) (by simp) ?_; (case hd => rfl); (case hg => rfl); (case hr => first | (go_simp; done) | (go_simp; rfl)); (case hp => exact (Reps.one (show Kd.M (Kd.int .u8) _ _ _ ((wrap64 (48 - a0)) % 256) [.int .u8 ((wrap64 (48 - a0)) % 256)] from rfl) (Reps.none _ _))); intro v108 w5 ho6 hb hg_ hnew_; clear hg_ hnew_; (first | rw [← Ny107.out] at ho6 | (simp only [Int.reduceToNat] at ho6; rw [← Ny107.out] at ho6)); have n0_ := Aside0.mk (Kd.R_lower ho6 (below_size (by repeat (first | (with_reducible first | exact HB.out | apply below_alloc | apply pw_below_drewN | apply below_drew1) | exact HB.out)))); have n1_ := Aside0.mk (below_step (by repeat (first | (with_reducible first | exact HB.out | apply below_alloc | apply pw_below_drewN | apply below_drew1) | exact HB.out)) hb); clear HB; have HO109 := n0_; have HB := n1_; clear n0_ n1_; clear hb ho6; have hcv7 := own_string (P := Try.prog) Try.underlying49 Try.underlying5 Try.underlying9 (Kd.own_of_R HO109.out)))
        go_ret
        exact ⟨by first | rfl | (simp [errW_none, errW_some] <;> rfl) | (simp [*, errW_none, errW_some] <;> rfl), by repeat (first | (with_reducible first | exact HB.out | apply below_alloc | apply pw_below_drewN | apply below_drew1) | exact HB.out)⟩
      · rw [if_neg c4] at H
        exact absurd H (by simp)
    · rw [if_neg c3] at H
      have c3b0 : decide ((-10) < a0) = false := decide_eq_false c3
      clear c3
      obtain ⟨y110, hy110⟩ : ∃ y_ : List Int, y_ = (([(wrap64 (48 - (Int.tmod a0 10))) % 256] : List Int)) := ⟨_, rfl⟩
      replace H : ((spec_Decimal.f k (wrap64 (Int.tdiv a0 10))).bind fun t113 => (if t113.size + (strOfNums y110).size ≤ 9223372036854775807 then (some (t113 ++ (strOfNums y110))) else (none))) = some r := by first | (rw [hy110]; with_reducible exact H) | (have H2_ := (Option.bind_some _ _).symm.trans H; rw [hy110]; with_reducible exact H2_) | (have H2_ := (Option.bind_some _ _).symm.trans H; with_reducible exact H2_) | with_reducible exact H | (rw [hy110]; exact H) | exact H
      have Ny110 := Aside0.mk hy110
      clear hy110
      replace H := Option.bind_eq_some_iff.mp H
      obtain ⟨t113, A80, H⟩ := H
      replace H : (if t113.size + (strOfNums y110).size ≤ 9223372036854775807 then (some (t113 ++ (strOfNums y110))) else (none)) = some r := H
      have A8 := Aside0.mk A80
      clear A80
      by_cases c9 : t113.size + (strOfNums y110).size ≤ 9223372036854775807
      · rw [if_pos c9] at H
        have c9b0 := eq_true c9
        have c9b1 : decide (t113.size + (strOfNums y110).size ≤ 9223372036854775807) = true := decide_eq_true c9
        try have c9b2 : (9223372036854775807 < t113.size + (strOfNums y110).size) = False := eq_false (Nat.not_lt.2 c9)
        obtain rfl := Option.some.inj H
        go_enter Try.func19, Try.ntmps19
        go_wp2_with (first | ((with_reducible refine gate_dst (N := 18) rfl ?_); refine Kd.R_lit (Kd.int .u8) _ 5 ?hg (N := 18) ?hd (xs := ([(wrap64 (48 - (Int.tmod a0 10))) % 256] : List Int)) (inner := [.int .u8 ((wrap64 (48 - (Int.tmod a0 10))) % 256)]) (ok := fun _ => True) (okp := fun _ => True) ?hr ?hp (fun _ hk => hk) trivial (Below.refl _ _) (Nat.le_refl _) (by simp) ?_; (case hd => rfl); (case hg => rfl); (case hr => first | (go_simp; done) | (go_simp; rfl)); (case hp => exact (Reps.one (show Kd.M (Kd.int .u8) _ _ _ ((wrap64 (48 - (Int.tmod a0 10))) % 256) [.int .u8 ((wrap64 (48 - (Int.tmod a0 10))) % 256)] from rfl) (Reps.none _ _))); intro v111 w10 ho11 hb hg_ hnew_; clear hg_ hnew_; (first | rw [← Ny110.out] at ho11 | (simp only [Int.reduceToNat] at ho11; rw [← Ny110.out] at ho11)); have n0_ := Aside0.mk (Kd.R_lower ho11 (below_size (by repeat (first | (with_reducible first | exact HB.out | apply below_alloc | apply pw_below_drewN | apply below_drew1) | exact HB.out)))); have n1_ := Aside0.mk (below_step (by repeat (first | (with_reducible first | exact HB.out | apply below_alloc | apply pw_below_drewN | apply below_drew1) | exact HB.out)) hb); clear HB; have HO112 := n0_; have HB := n1_; clear n0_ n1_; clear hb ho11; have hcv12 := own_string (P := Try.prog) Try.underlying49 Try.underlying5 Try.underlying9 (Kd.own_of_R HO112.out)) | ((with_reducible refine gate_callee (f := 19) rfl ?_); refine goesL_ (some 22) rfl rfl Try.func19 (by kernel_rfl) rfl #[.int .i64 (wrap64 (Int.tdiv a0 10))] rfl (by (try simp only [List.map_toArray, List.map_cons, List.map_nil]); first | done | rfl | (simp only [List.length_drop, List.length_take]; rfl)) ?_; (with_reducible refine (ih k (by omega) (wrap64 (Int.tdiv a0 10)) t113 _ A8.out).mono ?_); rintro e w13 ⟨rfl, hb⟩; refine ⟨_, rfl, ?_⟩; have n0_ := Aside0.mk (Kd.R_below (by (with_reducible repeat (first | apply Kd.R_alloc | apply Kd.R_drewN | apply Kd.R_drew)); exact HO112.out) hb); have n1_ := Aside0.mk (below_step (by repeat (first | (with_reducible first | exact HB.out | apply below_alloc | apply pw_below_drewN | apply below_drew1) | exact HB.out)) hb); clear HO112; clear HB; have HO112 := n0_; have HB := n1_; clear n0_ n1_; (try clear hb); (try clear hb2); (try clear hk); (try clear hi)))
        go_ret
        exact ⟨by first | rfl | (simp [errW_none, errW_some] <;> rfl) | (simp [*, errW_none, errW_some] <;> rfl), by repeat (first | (with_reducible first | exact HB.out | apply below_alloc | apply pw_below_drewN | apply below_drew1) | exact HB.out)⟩
      · rw [if_neg c9] at H
        exact absurd H (by simp)
  · rw [if_neg c2] at H
    have c2b0 : decide (a0 < 0) = false := decide_eq_false c2
    clear c2
    by_cases c14 : a0 < 10
    · rw [if_pos c14] at H
      have c14b0 : decide (a0 < 10) = true := decide_eq_true c14
      clear c14
      obtain ⟨y114, hy114⟩ : ∃ y_ : List Int, y_ = (([(wrap64 (48 + a0)) % 256] : List Int)) := ⟨_, rfl⟩
      replace H : (some (strOfNums y114)) = some r := by first | (rw [hy114]; with_reducible exact H) | (have H2_ := (Option.bind_some _ _).symm.trans H; rw [hy114]; with_reducible exact H2_) | (have H2_ := (Option.bind_some _ _).symm.trans H; with_reducible exact H2_) | with_reducible exact H | (rw [hy114]; exact H) | exact H
      have Ny114 := Aside0.mk hy114
      clear hy114
      obtain rfl := Option.some.inj H
      go_enter Try.func19, Try.ntmps19
      go_wp2_with (first | ((with_reducible refine gate_dst (N := 30) rfl ?_); refine Kd.R_lit (Kd.int .u8) _ 5 ?hg (N := 30) ?hd (xs := ([(wrap64 (48 + a0)) % 256] : List Int)) (inner := [.int .u8 ((wrap64 (48 + a0)) % 256)]) (ok := fun _ => True) (okp := fun _ => True) ?hr ?hp (fun _ hk => hk) trivial (Below.refl _ _) (Nat.le_refl _) (by simp) ?_; (case hd => rfl); (case hg => rfl); (case hr => first | (go_simp; done) | (go_simp; rfl)); (case hp => exact (Reps.one (show Kd.M (Kd.int .u8) _ _ _ ((wrap64 (48 + a0)) % 256) [.int .u8 ((wrap64 (48 + a0)) % 256)] from rfl) (Reps.none _ _))); intro v115 w15 ho16 hb hg_ hnew_; clear hg_ hnew_; (first | rw [← Ny114.out] at ho16 | (simp only [Int.reduceToNat] at ho16; rw [← Ny114.out] at ho16)); have n0_ := Aside0.mk (Kd.R_lower ho16 (below_size (by repeat (first | (with_reducible first | exact HB.out | apply below_alloc | apply pw_below_drewN | apply below_drew1) | exact HB.out)))); have n1_ := Aside0.mk (below_step (by repeat (first | (with_reducible first | exact HB.out | apply below_alloc | apply pw_below_drewN | apply below_drew1) | exact HB.out)) hb); clear HB; have HO116 := n0_; have HB := n1_; clear n0_ n1_; clear hb ho16; have hcv17 := own_string (P := Try.prog) Try.underlying49 Try.underlying5 Try.underlying9 (Kd.own_of_R HO116.out)))
      go_ret
      exact ⟨by first | rfl | (simp [errW_none, errW_some] <;> rfl) | (simp [*, errW_none, errW_some] <;> rfl), by repeat (first | (with_reducible first | exact HB.out | apply below_alloc | apply pw_below_drewN | apply below_drew1) | exact HB.out)⟩
    · rw [if_neg c14] at H
      have c14b0 : decide (a0 < 10) = false := decide_eq_false c14
      clear c14
      replace H := Option.bind_eq_some_iff.mp H
      obtain ⟨t117, A180, H⟩ := H
      replace H : ((some (([(wrap64 (48 + (Int.tmod a0 10))) % 256] : List Int) : List Int)).bind fun y118 => (if t117.size + (strOfNums y118).size ≤ 9223372036854775807 then (some (t117 ++ (strOfNums y118))) else (none))) = some r := H
      have A18 := Aside0.mk A180
      clear A180
      obtain ⟨y118, hy118⟩ : ∃ y_ : List Int, y_ = (([(wrap64 (48 + (Int.tmod a0 10))) % 256] : List Int)) := ⟨_, rfl⟩
      replace H : (if t117.size + (strOfNums y118).size ≤ 9223372036854775807 then (some (t117 ++ (strOfNums y118))) else (none)) = some r := by first | (rw [hy118]; with_reducible exact H) | (have H2_ := (Option.bind_some _ _).symm.trans H; rw [hy118]; with_reducible exact H2_) | (have H2_ := (Option.bind_some _ _).symm.trans H; with_reducible exact H2_) | with_reducible exact H | (rw [hy118]; exact H) | exact H
      have Ny118 := Aside0.mk hy118
      clear hy118
      by_cases c19 : t117.size + (strOfNums y118).size ≤ 9223372036854775807
      · rw [if_pos c19] at H
        have c19b0 := eq_true c19
        have c19b1 : decide (t117.size + (strOfNums y118).size ≤ 9223372036854775807) = true := decide_eq_true c19
        try have c19b2 : (9223372036854775807 < t117.size + (strOfNums y118).size) = False := eq_false (Nat.not_lt.2 c19)
        obtain rfl := Option.some.inj H
        go_enter Try.func19, Try.ntmps19
        try go_wp2
        have n0_ := Aside0.mk (below_drew1 HB.out)
        clear HB
        have HB := n0_
        clear n0_
        refine start_ (n := 11) (S := fun w' => True) (ds := []) #[false, false, false, false, false, false, false, false, false, false, false] (by kernel_rfl) rfl rfl trivial (fun hHeld => ?_); refine with_tabW spec_Decimal.tab9 spec_Decimal.bits9 (fun HT_ HW_ => ?_)
        generalize w.drew = w20 at HB hHeld ⊢
        refine pure_ (i := 0) (N := some 32) (v := ?_) (a' := ?_) #[true, false, false, false, false, false, false, false, false, false, false] rfl rfl (any_of HT_.out (by kernel_rfl)) (fun _ _ _ h => h) (Or.inl ⟨by rfl, ?_⟩) ?_ ?_
        rotate_left
        · intro w'
          go_simp
          with_reducible rfl
        rotate_left
        · simp only [Act.put, List.setIfInBounds_toArray, List.set_cons_zero, List.set_cons_succ, i64_w, i32_w]
          rfl
        refine pure_ (i := 1) (N := some 33) (v := ?_) (a' := ?_) #[true, true, false, false, false, false, false, false, false, false, false] rfl rfl (any_of HT_.out (by kernel_rfl)) (fun _ _ _ h => h) (Or.inl ⟨by rfl, ?_⟩) ?_ ?_
        rotate_left
        · intro w'
          go_simp
          with_reducible rfl
        rotate_left
        · simp only [Act.put, List.setIfInBounds_toArray, List.set_cons_zero, List.set_cons_succ, i64_w, i32_w]
          rfl
        refine pure_ (i := 3) (N := some 35) (v := ?_) (a' := ?_) #[true, true, false, true, false, false, false, false, false, false, false] rfl rfl (any_of HT_.out (by kernel_rfl)) (fun _ _ _ h => h) (Or.inl ⟨by rfl, ?_⟩) ?_ ?_
        rotate_left
        · intro w'
          go_simp
          with_reducible rfl
        rotate_left
        · simp only [Act.put, List.setIfInBounds_toArray, List.set_cons_zero, List.set_cons_succ, i64_w, i32_w]
          rfl
        refine pure_ (i := 4) (N := some 36) (v := ?_) (a' := ?_) #[true, true, false, true, true, false, false, false, false, false, false] rfl rfl (any_of HT_.out (by kernel_rfl)) (fun _ _ _ h => h) (Or.inl ⟨by rfl, ?_⟩) ?_ ?_
        rotate_left
        · intro w'
          go_simp
          with_reducible rfl
        rotate_left
        · simp only [Act.put, List.setIfInBounds_toArray, List.set_cons_zero, List.set_cons_succ, i64_w, i32_w]
          rfl
        refine pure_ (i := 5) (N := some 37) (v := ?_) (a' := ?_) #[true, true, false, true, true, true, false, false, false, false, false] rfl rfl (any_of HT_.out (by kernel_rfl)) (fun _ _ _ h => h) (Or.inl ⟨by rfl, ?_⟩) ?_ ?_
        rotate_left
        · intro w'
          go_simp
          with_reducible rfl
        rotate_left
        · simp only [Act.put, List.setIfInBounds_toArray, List.set_cons_zero, List.set_cons_succ, i64_w, i32_w]
          rfl
        refine pure_ (i := 6) (N := some 38) (v := ?_) (a' := ?_) #[true, true, false, true, true, true, true, false, false, false, false] rfl rfl (any_of HT_.out (by kernel_rfl)) (fun _ _ _ h => h) (Or.inl ⟨by rfl, ?_⟩) ?_ ?_
        rotate_left
        · intro w'
          go_simp
          with_reducible rfl
        rotate_left
        · simp only [Act.put, List.setIfInBounds_toArray, List.set_cons_zero, List.set_cons_succ, i64_w, i32_w]
          rfl
        refine join_ (σ := Value) 2 #[true, true, true, true, true, true, true, true, true, false, false] (fun s_ => [(34, .string t117), (39, s_), (40, .string (strOfNums y118))]) (fun s_ w' => (Kd.R (Kd.int .u8) 5 w' w.heap.size (fun _ => True) s_ y118) ∧ (Below w.heap.size w w')) ?_ ?_
        rotate_left
        · intro hCont
          refine two_ (i := 2) (j := 7) (Ni := some 34) (Nj := some 39) #[true, true, true, true, true, true, true, false, false, false, false] #[true, true, false, true, true, true, true, true, false, false, false] rfl rfl rfl rfl (two_of HT_.out (by kernel_rfl)) (by decide) (by decide) (fun K hK => ?_) (fun K hK => ?_)
          · skip
            refine goes_ Try.func19 (by kernel_rfl) rfl #[.int .i64 (wrap64 (Int.tdiv a0 10))] (by rfl) rfl rfl (by (try simp only [List.map_toArray, List.map_cons, List.map_nil]); first | done | rfl | (simp only [List.length_drop, List.length_take]; rfl)) ?_
            with_reducible refine (ih k (by omega) (wrap64 (Int.tdiv a0 10)) t117 _ A18.out).mono ?_
            rintro e w21 ⟨rfl, hb⟩
            refine ⟨_, rfl, ?_⟩
            have n0_ := Aside0.mk (below_step (by repeat (first | (with_reducible first | exact HB.out | apply below_alloc | apply pw_below_drewN | apply below_drew1) | exact HB.out)) hb)
            clear HB
            have HB := n0_
            clear n0_
            (try clear hb)
            (try clear hb2)
            (try clear hk)
            (try clear hi)
            refine hK.out _ _ trivial (fun hHeld => ?_)
            clear hK K
            refine norm_ (a' := ?_) ?_ ?_
            rotate_left
            · show Act.put _ (some 34) _ = _
              simp only [Act.put, List.setIfInBounds_toArray, List.set_cons_zero, List.set_cons_succ, i64_w, i32_w]
              rfl
            refine one_ (i := 7) (N := some 39) #[true, true, true, true, true, true, true, true, false, false, false] rfl rfl (one_of HT_.out (by kernel_rfl)) (by decide) (fun K hK => ?_)
            refine Kd.R_lit_step (Kd.int .u8) _ 5 ?hg (N := 39) ?hd (xs := ([(wrap64 (48 + (Int.tmod a0 10))) % 256] : List Int)) (inner := [.int .u8 ((wrap64 (48 + (Int.tmod a0 10))) % 256)]) (ok := fun _ => True) (okp := fun _ => True) ?hr ?hp (fun _ hk => hk) trivial (Below.refl _ _) (Nat.le_refl _) (by simp) ?_; (case hd => rfl); (case hg => rfl); (case hr => first | (go_simp; done) | (go_simp; rfl)); (case hp => exact (Reps.one (show Kd.M (Kd.int .u8) _ _ _ ((wrap64 (48 + (Int.tmod a0 10))) % 256) [.int .u8 ((wrap64 (48 + (Int.tmod a0 10))) % 256)] from rfl) (Reps.none _ _)))
            intro v119 w22 ho23 hb hg_ hnew_
            clear hg_ hnew_
            (first | rw [← Ny118.out] at ho23 | (simp only [Int.reduceToNat] at ho23; rw [← Ny118.out] at ho23))
            have n0_ := Aside0.mk (Kd.R_lower ho23 (below_size (by repeat (first | (with_reducible first | exact HB.out | apply below_alloc | apply pw_below_drewN | apply below_drew1) | exact HB.out))))
            have n1_ := Aside0.mk (below_step (by repeat (first | (with_reducible first | exact HB.out | apply below_alloc | apply pw_below_drewN | apply below_drew1) | exact HB.out)) hb)
            clear HB
            have HO120 := n0_
            have HB := n1_
            clear n0_ n1_
            clear hb ho23
            refine hK.out _ _ trivial (fun hHeld => ?_)
            clear hK K
            refine norm_ (a' := ?_) ?_ ?_
            rotate_left
            · show Act.put _ (some 39) _ = _
              simp only [Act.put, List.setIfInBounds_toArray, List.set_cons_zero, List.set_cons_succ, i64_w, i32_w]
              rfl
            refine one_ (i := 8) (N := some 40) #[true, true, true, true, true, true, true, true, true, false, false] rfl rfl (one_of HT_.out (by kernel_rfl)) (by decide) (fun K hK => ?_)
            have hcv24 := own_string (P := Try.prog) Try.underlying49 Try.underlying5 Try.underlying9 (Kd.own_of_R HO120.out)
            refine value_ (w1 := ?_) (v := ?_) (by rfl) rfl ?_ ?_
            rotate_left 2
            · go_simp
              constructor
              · rfl
              · rfl
            clear hcv24
            refine hK.out _ _ trivial (fun hHeld => ?_)
            clear hK K
            refine norm_ (a' := ?_) ?_ ?_
            rotate_left
            · show Act.put _ (some 40) _ = _
              simp only [Act.put, List.setIfInBounds_toArray, List.set_cons_zero, List.set_cons_succ, i64_w, i32_w]
              rfl
            exact norm_ (by simp only [putAll, Act.put, List.setIfInBounds_toArray, List.set_cons_zero, List.set_cons_succ]) (hCont (v119) _ ⟨(by (with_reducible repeat (first | apply Kd.R_alloc | apply Kd.R_drewN | apply Kd.R_drew)); exact HO120.out), (by repeat (first | (with_reducible first | exact HB.out | apply below_alloc | apply pw_below_drewN | apply below_drew1) | exact HB.out))⟩)
          · skip
            refine Kd.R_lit_step (Kd.int .u8) _ 5 ?hg (N := 39) ?hd (xs := ([(wrap64 (48 + (Int.tmod a0 10))) % 256] : List Int)) (inner := [.int .u8 ((wrap64 (48 + (Int.tmod a0 10))) % 256)]) (ok := fun _ => True) (okp := fun _ => True) ?hr ?hp (fun _ hk => hk) trivial (Below.refl _ _) (Nat.le_refl _) (by simp) ?_; (case hd => rfl); (case hg => rfl); (case hr => first | (go_simp; done) | (go_simp; rfl)); (case hp => exact (Reps.one (show Kd.M (Kd.int .u8) _ _ _ ((wrap64 (48 + (Int.tmod a0 10))) % 256) [.int .u8 ((wrap64 (48 + (Int.tmod a0 10))) % 256)] from rfl) (Reps.none _ _)))
            intro v119 w21 ho22 hb hg_ hnew_
            clear hg_ hnew_
            (first | rw [← Ny118.out] at ho22 | (simp only [Int.reduceToNat] at ho22; rw [← Ny118.out] at ho22))
            have n0_ := Aside0.mk (Kd.R_lower ho22 (below_size (by repeat (first | (with_reducible first | exact HB.out | apply below_alloc | apply pw_below_drewN | apply below_drew1) | exact HB.out))))
            have n1_ := Aside0.mk (below_step (by repeat (first | (with_reducible first | exact HB.out | apply below_alloc | apply pw_below_drewN | apply below_drew1) | exact HB.out)) hb)
            clear HB
            have HO120 := n0_
            have HB := n1_
            clear n0_ n1_
            clear hb ho22
            refine hK.out _ _ trivial (fun hHeld => ?_)
            clear hK K
            refine norm_ (a' := ?_) ?_ ?_
            rotate_left
            · show Act.put _ (some 39) _ = _
              simp only [Act.put, List.setIfInBounds_toArray, List.set_cons_zero, List.set_cons_succ, i64_w, i32_w]
              rfl
            refine two_ (i := 2) (j := 8) (Ni := some 34) (Nj := some 40) #[true, true, true, true, true, true, true, true, false, false, false] #[true, true, false, true, true, true, true, true, true, false, false] rfl rfl rfl rfl (two_of HT_.out (by kernel_rfl)) (by decide) (by decide) (fun K hK => ?_) (fun K hK => ?_)
            · skip
              refine goes_ Try.func19 (by kernel_rfl) rfl #[.int .i64 (wrap64 (Int.tdiv a0 10))] (by rfl) rfl rfl (by (try simp only [List.map_toArray, List.map_cons, List.map_nil]); first | done | rfl | (simp only [List.length_drop, List.length_take]; rfl)) ?_
              with_reducible refine (ih k (by omega) (wrap64 (Int.tdiv a0 10)) t117 _ A18.out).mono ?_
              rintro e w23 ⟨rfl, hb⟩
              refine ⟨_, rfl, ?_⟩
              have n0_ := Aside0.mk (Kd.R_below (by (with_reducible repeat (first | apply Kd.R_alloc | apply Kd.R_drewN | apply Kd.R_drew)); exact HO120.out) hb)
              have n1_ := Aside0.mk (below_step (by repeat (first | (with_reducible first | exact HB.out | apply below_alloc | apply pw_below_drewN | apply below_drew1) | exact HB.out)) hb)
              clear HO120
              clear HB
              have HO120 := n0_
              have HB := n1_
              clear n0_ n1_
              (try clear hb)
              (try clear hb2)
              (try clear hk)
              (try clear hi)
              refine hK.out _ _ trivial (fun hHeld => ?_)
              clear hK K
              refine norm_ (a' := ?_) ?_ ?_
              rotate_left
              · show Act.put _ (some 34) _ = _
                simp only [Act.put, List.setIfInBounds_toArray, List.set_cons_zero, List.set_cons_succ, i64_w, i32_w]
                rfl
              refine one_ (i := 8) (N := some 40) #[true, true, true, true, true, true, true, true, true, false, false] rfl rfl (one_of HT_.out (by kernel_rfl)) (by decide) (fun K hK => ?_)
              have hcv24 := own_string (P := Try.prog) Try.underlying49 Try.underlying5 Try.underlying9 (Kd.own_of_R HO120.out)
              refine value_ (w1 := ?_) (v := ?_) (by rfl) rfl ?_ ?_
              rotate_left 2
              · go_simp
                constructor
                · rfl
                · rfl
              clear hcv24
              refine hK.out _ _ trivial (fun hHeld => ?_)
              clear hK K
              refine norm_ (a' := ?_) ?_ ?_
              rotate_left
              · show Act.put _ (some 40) _ = _
                simp only [Act.put, List.setIfInBounds_toArray, List.set_cons_zero, List.set_cons_succ, i64_w, i32_w]
                rfl
              exact norm_ (by simp only [putAll, Act.put, List.setIfInBounds_toArray, List.set_cons_zero, List.set_cons_succ]) (hCont (v119) _ ⟨(by (with_reducible repeat (first | apply Kd.R_alloc | apply Kd.R_drewN | apply Kd.R_drew)); exact HO120.out), (by repeat (first | (with_reducible first | exact HB.out | apply below_alloc | apply pw_below_drewN | apply below_drew1) | exact HB.out))⟩)
            · skip
              have hcv23 := own_string (P := Try.prog) Try.underlying49 Try.underlying5 Try.underlying9 (Kd.own_of_R HO120.out)
              refine value_ (w1 := ?_) (v := ?_) (by rfl) rfl ?_ ?_
              rotate_left 2
              · go_simp
                constructor
                · rfl
                · rfl
              clear hcv23
              refine hK.out _ _ trivial (fun hHeld => ?_)
              clear hK K
              refine norm_ (a' := ?_) ?_ ?_
              rotate_left
              · show Act.put _ (some 40) _ = _
                simp only [Act.put, List.setIfInBounds_toArray, List.set_cons_zero, List.set_cons_succ, i64_w, i32_w]
                rfl
              refine one_ (i := 2) (N := some 34) #[true, true, true, true, true, true, true, true, true, false, false] rfl rfl (one_of HT_.out (by kernel_rfl)) (by decide) (fun K hK => ?_)
              refine goes_ Try.func19 (by kernel_rfl) rfl #[.int .i64 (wrap64 (Int.tdiv a0 10))] (by rfl) rfl rfl (by (try simp only [List.map_toArray, List.map_cons, List.map_nil]); first | done | rfl | (simp only [List.length_drop, List.length_take]; rfl)) ?_
              with_reducible refine (ih k (by omega) (wrap64 (Int.tdiv a0 10)) t117 _ A18.out).mono ?_
              rintro e w24 ⟨rfl, hb⟩
              refine ⟨_, rfl, ?_⟩
              have n0_ := Aside0.mk (Kd.R_below (by (with_reducible repeat (first | apply Kd.R_alloc | apply Kd.R_drewN | apply Kd.R_drew)); exact HO120.out) hb)
              have n1_ := Aside0.mk (below_step (by repeat (first | (with_reducible first | exact HB.out | apply below_alloc | apply pw_below_drewN | apply below_drew1) | exact HB.out)) hb)
              clear HO120
              clear HB
              have HO120 := n0_
              have HB := n1_
              clear n0_ n1_
              (try clear hb)
              (try clear hb2)
              (try clear hk)
              (try clear hi)
              refine hK.out _ _ trivial (fun hHeld => ?_)
              clear hK K
              refine norm_ (a' := ?_) ?_ ?_
              rotate_left
              · show Act.put _ (some 34) _ = _
                simp only [Act.put, List.setIfInBounds_toArray, List.set_cons_zero, List.set_cons_succ, i64_w, i32_w]
                rfl
              exact norm_ (by simp only [putAll, Act.put, List.setIfInBounds_toArray, List.set_cons_zero, List.set_cons_succ]) (hCont (v119) _ ⟨(by (with_reducible repeat (first | apply Kd.R_alloc | apply Kd.R_drewN | apply Kd.R_drew)); exact HO120.out), (by repeat (first | (with_reducible first | exact HB.out | apply below_alloc | apply pw_below_drewN | apply below_drew1) | exact HB.out))⟩)
        rintro v119 w25 ⟨h0_, h1_⟩
        have n0_ : Aside0 (Kd.R (Kd.int .u8) 5 w25 w.heap.size (fun _ => True) v119 y118) := ⟨h0_⟩
        have n1_ : Aside0 (Below w.heap.size w w25) := ⟨h1_⟩
        clear HB
        clear h0_ h1_
        have HO120 := n0_
        have HB := n1_
        clear n0_ n1_
        have hHeld := trivial
        refine norm_ (a' := ?_) ?_ ?_
        rotate_left
        · simp only [putAll, Act.put, List.setIfInBounds_toArray, List.set_cons_zero, List.set_cons_succ]
          rfl
        refine pure_ (i := 9) (N := some 41) (v := ?_) (a' := ?_) #[true, true, true, true, true, true, true, true, true, true, false] rfl rfl (any_of HT_.out (by kernel_rfl)) (fun _ _ _ h => h) (Or.inl ⟨by rfl, ?_⟩) ?_ ?_
        rotate_left
        · intro w'
          go_simp
          with_reducible rfl
        rotate_left
        · simp only [Act.put, List.setIfInBounds_toArray, List.set_cons_zero, List.set_cons_succ, i64_w, i32_w]
          rfl
        refine pure_ (i := 10) (N := some 2) (v := ?_) (a' := ?_) #[true, true, true, true, true, true, true, true, true, true, true] rfl rfl (any_of HT_.out (by kernel_rfl)) (fun _ _ _ h => h) (Or.inl ⟨by rfl, ?_⟩) ?_ ?_
        rotate_left
        · intro w'
          go_simp
          with_reducible rfl
        rotate_left
        · simp only [Act.put, List.setIfInBounds_toArray, List.set_cons_zero, List.set_cons_succ, i64_w, i32_w]
          rfl
        refine done_ (done_of HT_.out (by kernel_rfl)) ?_
        try go_wp2
        go_ret
        exact ⟨by first | rfl | (simp [errW_none, errW_some] <;> rfl) | (simp [*, errW_none, errW_some] <;> rfl), by repeat (first | (with_reducible first | exact HB.out | apply below_alloc | apply pw_below_drewN | apply below_drew1) | exact HB.out)⟩
      · rw [if_neg c19] at H
        exact absurd H (by simp)

/-! ### laws_FnTextCursors: function 8 -/
def laws_FnTextCursors.f (k : Nat) (a0 : Int) (a1 : Int) : Option (Bool) := if 0 ≤ (Int.tmod a0 4) then (if (Int.tmod a0 4) < 4 then (if a1 < 1 then (some true) else (if a1 > 1000000 then (some true) else ((impl_TextCursors.f (rd [65, 66, 67, 68] (Int.tmod a0 4)) a1).bind fun t121 => ((spec_Decimal.f k a1).bind fun t122 => (if 2 + t122.size ≤ 9223372036854775807 then (if ((⟨#[27, 91]⟩ : ByteArray) ++ t122).size + (Go.Utf8.encode (rd [65, 66, 67, 68] (Int.tmod a0 4))).size ≤ 9223372036854775807 then (some (t121.toList == (((⟨#[27, 91]⟩ : ByteArray) ++ t122) ++ (Go.Utf8.encode (rd [65, 66, 67, 68] (Int.tmod a0 4)))).toList)) else (none)) else (none)))))) else (none)) else (none)
theorem laws_FnTextCursors.mono : ∀ a0 a1 k, LeO (laws_FnTextCursors.f k a0 a1) (laws_FnTextCursors.f (k + 1) a0 a1) := by
  intro a0 a1 k
  unfold laws_FnTextCursors.f
  repeat' first
      | (with_reducible exact spec_Decimal.mono _ _)
      | (with_reducible exact LeO.refl _)
      | (with_reducible exact LeO.none _)
      | (with_reducible refine LeO.ite ?_ ?_)
      | (with_reducible refine LeO.bind ?_ (fun _ => ?_))
      | exact spec_Decimal.mono _ _
      | exact LeO.none _
      | refine LeO.ite ?_ ?_
      | refine LeO.bind ?_ (fun _ => ?_)
set_option maxHeartbeats 8000000 in
set_option maxRecDepth 100000 in
theorem laws_FnTextCursors.calls (k : Nat) (a0 : Int) (a1 : Int) (r : Bool) (w : World) (h : laws_FnTextCursors.f k a0 a1 = some r) :
    Calls Try.prog 8 #[.int .u8 a0, .int .i64 a1] w fun e w' => e = .returned (.bool r) ∧ Below w.heap.size w w' := by
  have HB := Aside0.mk (Below.refl w.heap.size w)
  have H : (if 0 ≤ (Int.tmod a0 4) then (if (Int.tmod a0 4) < 4 then (if a1 < 1 then (some true) else (if a1 > 1000000 then (some true) else ((impl_TextCursors.f (rd [65, 66, 67, 68] (Int.tmod a0 4)) a1).bind fun t121 => ((spec_Decimal.f k a1).bind fun t122 => (if 2 + t122.size ≤ 9223372036854775807 then (if ((⟨#[27, 91]⟩ : ByteArray) ++ t122).size + (Go.Utf8.encode (rd [65, 66, 67, 68] (Int.tmod a0 4))).size ≤ 9223372036854775807 then (some (t121.toList == (((⟨#[27, 91]⟩ : ByteArray) ++ t122) ++ (Go.Utf8.encode (rd [65, 66, 67, 68] (Int.tmod a0 4)))).toList)) else (none)) else (none)))))) else (none)) else (none)) = some r := h
  clear h
  obtain ⟨ji3, hji3⟩ : ∃ j_ : Int, (Int.tmod a0 4) = j_ := ⟨_, rfl⟩
  replace H : (if 0 ≤ (ji3) then (if (ji3) < 4 then (if a1 < 1 then (some true) else (if a1 > 1000000 then (some true) else ((impl_TextCursors.f (rd [65, 66, 67, 68] (ji3)) a1).bind fun t121 => ((spec_Decimal.f k a1).bind fun t122 => (if 2 + t122.size ≤ 9223372036854775807 then (if ((⟨#[27, 91]⟩ : ByteArray) ++ t122).size + (Go.Utf8.encode (rd [65, 66, 67, 68] (ji3))).size ≤ 9223372036854775807 then (some (t121.toList == (((⟨#[27, 91]⟩ : ByteArray) ++ t122) ++ (Go.Utf8.encode (rd [65, 66, 67, 68] (ji3)))).toList)) else (none)) else (none)))))) else (none)) else (none)) = some r := by first | (rw [hji3] at H; exact H) | (simp only [hji3] at H ⊢; exact H)
  by_cases c4 : 0 ≤ (ji3)
  · rw [if_pos c4] at H
    have c4b0 : decide (0 ≤ (ji3)) = true := decide_eq_true c4
    clear c4
    by_cases c5 : (ji3) < 4
    · rw [if_pos c5] at H
      have c5b0 : decide ((ji3) < 4) = true := decide_eq_true c5
      clear c5
      by_cases c6 : a1 < 1
      · rw [if_pos c6] at H
        have c6b0 : decide (a1 < 1) = true := decide_eq_true c6
        clear c6
        obtain rfl := Option.some.inj H
        go_enter Try.func8, Try.ntmps8
        go_wp2_with (first | ((with_reducible refine gate_dst (N := 9) rfl ?_); refine It.arr_event ?hg (N := 9) ?hd (T := 35) (xs := #[.int .i32 65, .int .i32 66, .int .i32 67, .int .i32 68]) (k := .u8) (j := ji3) (r := .int .i32 (rd [65, 66, 67, 68] (ji3))) rfl ?hx ?hi ?hrun ?_; (case hd => rfl); (case hg => rfl); (case hx => first | rfl | (go_simp; done) | (go_simp; rfl)); (case hi => first | rfl | (go_simp; done) | (go_simp; rfl)); (case hrun => exact (fun (j_ : Int) (h0_ : 0 ≤ j_) (h1_ : j_ < 4) => (by have h_ : j_ = 0 ∨ j_ = 1 ∨ j_ = 2 ∨ j_ = 3 := (by omega); rcases h_ with rfl | rfl | rfl | rfl <;> first | rfl | kernel_rfl : (Instr.index 35 (.agg #[.int .i32 65, .int .i32 66, .int .i32 67, .int .i32 68]) (.int .u8 j_)).run Try.prog _ = .ok (.int .i32 (rd [65, 66, 67, 68] j_)) _)) _ (of_decide_eq_true (by first | (with_reducible assumption) | assumption)) (of_decide_eq_true (by first | (with_reducible assumption) | assumption)))))
        go_ret
        exact ⟨by first | rfl | (simp [errW_none, errW_some] <;> rfl) | (simp only [← hji3]; first | rfl | (simp [errW_none, errW_some] <;> rfl)) | (simp [*, errW_none, errW_some] <;> rfl), by repeat (first | (with_reducible first | exact HB.out | apply below_alloc | apply pw_below_drewN | apply below_drew1) | exact HB.out)⟩
      · rw [if_neg c6] at H
        have c6b0 : decide (a1 < 1) = false := decide_eq_false c6
        clear c6
        by_cases c7 : a1 > 1000000
        · rw [if_pos c7] at H
          have c7b0 : decide (1000000 < a1) = true := decide_eq_true c7
          clear c7
          obtain rfl := Option.some.inj H
          go_enter Try.func8, Try.ntmps8
          go_wp2_with (first | ((with_reducible refine gate_dst (N := 9) rfl ?_); refine It.arr_event ?hg (N := 9) ?hd (T := 35) (xs := #[.int .i32 65, .int .i32 66, .int .i32 67, .int .i32 68]) (k := .u8) (j := ji3) (r := .int .i32 (rd [65, 66, 67, 68] (ji3))) rfl ?hx ?hi ?hrun ?_; (case hd => rfl); (case hg => rfl); (case hx => first | rfl | (go_simp; done) | (go_simp; rfl)); (case hi => first | rfl | (go_simp; done) | (go_simp; rfl)); (case hrun => exact (fun (j_ : Int) (h0_ : 0 ≤ j_) (h1_ : j_ < 4) => (by have h_ : j_ = 0 ∨ j_ = 1 ∨ j_ = 2 ∨ j_ = 3 := (by omega); rcases h_ with rfl | rfl | rfl | rfl <;> first | rfl | kernel_rfl : (Instr.index 35 (.agg #[.int .i32 65, .int .i32 66, .int .i32 67, .int .i32 68]) (.int .u8 j_)).run Try.prog _ = .ok (.int .i32 (rd [65, 66, 67, 68] j_)) _)) _ (of_decide_eq_true (by first | (with_reducible assumption) | assumption)) (of_decide_eq_true (by first | (with_reducible assumption) | assumption)))))
          go_ret
          exact ⟨by first | rfl | (simp [errW_none, errW_some] <;> rfl) | (simp only [← hji3]; first | rfl | (simp [errW_none, errW_some] <;> rfl)) | (simp [*, errW_none, errW_some] <;> rfl), by repeat (first | (with_reducible first | exact HB.out | apply below_alloc | apply pw_below_drewN | apply below_drew1) | exact HB.out)⟩
        · rw [if_neg c7] at H
          have c7b0 : decide (1000000 < a1) = false := decide_eq_false c7
          clear c7
          replace H := Option.bind_eq_some_iff.mp H
          obtain ⟨t121, A80, H⟩ := H
          replace H : ((spec_Decimal.f k a1).bind fun t122 => (if 2 + t122.size ≤ 9223372036854775807 then (if ((⟨#[27, 91]⟩ : ByteArray) ++ t122).size + (Go.Utf8.encode (rd [65, 66, 67, 68] (ji3))).size ≤ 9223372036854775807 then (some (t121.toList == (((⟨#[27, 91]⟩ : ByteArray) ++ t122) ++ (Go.Utf8.encode (rd [65, 66, 67, 68] (ji3)))).toList)) else (none)) else (none))) = some r := H
          have A8 := Aside0.mk A80
          clear A80
          replace H := Option.bind_eq_some_iff.mp H
          obtain ⟨t122, A90, H⟩ := H
          replace H : (if 2 + t122.size ≤ 9223372036854775807 then (if ((⟨#[27, 91]⟩ : ByteArray) ++ t122).size + (Go.Utf8.encode (rd [65, 66, 67, 68] (ji3))).size ≤ 9223372036854775807 then (some (t121.toList == (((⟨#[27, 91]⟩ : ByteArray) ++ t122) ++ (Go.Utf8.encode (rd [65, 66, 67, 68] (ji3)))).toList)) else (none)) else (none)) = some r := H
          have A9 := Aside0.mk A90
          clear A90
          by_cases c10 : 2 + t122.size ≤ 9223372036854775807
          · rw [if_pos c10] at H
            have c10b0 := eq_true c10
            have c10b1 : decide (2 + t122.size ≤ 9223372036854775807) = true := decide_eq_true c10
            try have c10b2 : (9223372036854775807 < 2 + t122.size) = False := eq_false (Nat.not_lt.2 c10)
            by_cases c11 : ((⟨#[27, 91]⟩ : ByteArray) ++ t122).size + (Go.Utf8.encode (rd [65, 66, 67, 68] (ji3))).size ≤ 9223372036854775807
            · rw [if_pos c11] at H
              have c11b0 := eq_true c11
              have c11b1 : decide (((⟨#[27, 91]⟩ : ByteArray) ++ t122).size + (Go.Utf8.encode (rd [65, 66, 67, 68] (ji3))).size ≤ 9223372036854775807) = true := decide_eq_true c11
              try have c11b2 : (9223372036854775807 < ((⟨#[27, 91]⟩ : ByteArray) ++ t122).size + (Go.Utf8.encode (rd [65, 66, 67, 68] (ji3))).size) = False := eq_false (Nat.not_lt.2 c11)
              obtain rfl := Option.some.inj H
              go_enter Try.func8, Try.ntmps8
              go_wp2_with (first | ((with_reducible refine gate_dst (N := 9) rfl ?_); refine It.arr_event ?hg (N := 9) ?hd (T := 35) (xs := #[.int .i32 65, .int .i32 66, .int .i32 67, .int .i32 68]) (k := .u8) (j := ji3) (r := .int .i32 (rd [65, 66, 67, 68] (ji3))) rfl ?hx ?hi ?hrun ?_; (case hd => rfl); (case hg => rfl); (case hx => first | rfl | (go_simp; done) | (go_simp; rfl)); (case hi => first | rfl | (go_simp; done) | (go_simp; rfl)); (case hrun => exact (fun (j_ : Int) (h0_ : 0 ≤ j_) (h1_ : j_ < 4) => (by have h_ : j_ = 0 ∨ j_ = 1 ∨ j_ = 2 ∨ j_ = 3 := (by omega); rcases h_ with rfl | rfl | rfl | rfl <;> first | rfl | kernel_rfl : (Instr.index 35 (.agg #[.int .i32 65, .int .i32 66, .int .i32 67, .int .i32 68]) (.int .u8 j_)).run Try.prog _ = .ok (.int .i32 (rd [65, 66, 67, 68] j_)) _)) _ (of_decide_eq_true (by first | (with_reducible assumption) | assumption)) (of_decide_eq_true (by first | (with_reducible assumption) | assumption)))) | (go_at_call 18; (with_reducible refine (impl_TextCursors.calls (rd [65, 66, 67, 68] (ji3)) a1 t121 _ A8.out).mono ?_); rintro e w12 ⟨rfl, hb⟩; have n0_ := Aside0.mk (below_step (by repeat (first | (with_reducible first | exact HB.out | apply below_alloc | apply pw_below_drewN | apply below_drew1) | exact HB.out)) hb); clear HB; have HB := n0_; clear n0_; (try clear hb); (try clear hb2); (try clear hk); (try clear hi)) | (go_at_call 19; (with_reducible refine (spec_Decimal.calls k a1 t122 _ A9.out).mono ?_); rintro e w13 ⟨rfl, hb⟩; have n0_ := Aside0.mk (below_step (by repeat (first | (with_reducible first | exact HB.out | apply below_alloc | apply pw_below_drewN | apply below_drew1) | exact HB.out)) hb); clear HB; have HB := n0_; clear n0_; (try clear hb); (try clear hb2); (try clear hk); (try clear hi)))
              go_ret
              exact ⟨by first | rfl | (simp [errW_none, errW_some] <;> rfl) | (simp only [← hji3]; first | rfl | (simp [errW_none, errW_some] <;> rfl)) | (simp [*, errW_none, errW_some] <;> rfl), by repeat (first | (with_reducible first | exact HB.out | apply below_alloc | apply pw_below_drewN | apply below_drew1) | exact HB.out)⟩
            · rw [if_neg c11] at H
              exact absurd H (by simp)
          · rw [if_neg c10] at H
            exact absurd H (by simp)
    · rw [if_neg c5] at H
      exact absurd H (by simp)
  · rw [if_neg c4] at H
    exact absurd H (by simp)

/-- THE ONE PURE STATEMENT of laws_FnTextCursors: yours. -/
def laws_FnTextCursors.Pure : Prop := ∀ (a0 : Int) (a1 : Int), (Lit.int .u8 a0).wf = true → (Lit.int .i64 a1).wf = true → ∃ k, laws_FnTextCursors.f k a0 a1 = some true
theorem laws_FnTextCursors.walk (P : laws_FnTextCursors.Pure) (a0 : Int) (a1 : Int) (w : World) (w0 : (Lit.int .u8 a0).wf = true) (w1 : (Lit.int .i64 a1).wf = true) :
    Calls Try.prog 8 #[.int .u8 a0, .int .i64 a1] w fun e w' => e = .returned (.bool true) ∧ Below w.heap.size w w' := by
  obtain ⟨k, h⟩ := P a0 a1 w0 w1
  refine (laws_FnTextCursors.calls k a0 a1 true w h).mono ?_
  rintro e w' ⟨rfl, hd⟩
  exact ⟨rfl, hd⟩

end Go.Proofs.Ytimefacdnabkdaa.PFnTextCursors
