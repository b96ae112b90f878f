-- Written by hprint.py, a program of this session
import Derived.Test.YtimefacdnabkdabPItoax0
namespace Go.Proofs.Ytimefacdnabkdab.PItoa
open Go.RowKit Go.Proofs.Ytimefacdnabkdab.Hand Go.Proofs.YtimefacdnabkdabW.PrintWords Go.Proofs.YtimefacdnabkdabW.PrintLast Go.Proofs.YtimefacdnabkdabW.PrintMore
attribute [local go_sem] max2_int min2_int max_two min_two max_three min_three max_four min_four   -- for this text's walks alone
set_option linter.unusedVariables false
set_option linter.unusedSimpArgs false

-- BY HAND: function 87 (lightstrconv_FormatUint)

/-! ### lightstrconv_FormatInt: function 78 -/
def lightstrconv_FormatInt.f (a0 : Int) (a1 : Int) : Option (ByteArray) := if a0 < 0 then ((lightstrconv_FormatUint.f (IntKind.u64.wrap (-(IntKind.u64.wrap (a0)))) a1).bind fun t101 => (if 1 + t101.size ≤ 9223372036854775807 then (some ((⟨#[45]⟩ : ByteArray) ++ t101)) else (none))) else ((lightstrconv_FormatUint.f (IntKind.u64.wrap (a0)) a1).bind fun t102 => (some t102))
set_option maxHeartbeats 8000000 in
set_option maxRecDepth 100000 in
theorem lightstrconv_FormatInt.calls (a0 : Int) (a1 : Int) (r : ByteArray) (w : World) (h : lightstrconv_FormatInt.f a0 a1 = some r) :
    Calls Try.prog 78 #[.int .i64 a0, .int .i64 a1] w fun e w' => e = .returned (.string r) ∧ Below w.heap.size w w' := by
  have HB := Aside0.mk (Below.refl w.heap.size w)
  have H : (if a0 < 0 then ((lightstrconv_FormatUint.f (IntKind.u64.wrap (-(IntKind.u64.wrap (a0)))) a1).bind fun t101 => (if 1 + t101.size ≤ 9223372036854775807 then (some ((⟨#[45]⟩ : ByteArray) ++ t101)) else (none))) else ((lightstrconv_FormatUint.f (IntKind.u64.wrap (a0)) a1).bind fun t102 => (some t102))) = some r := h
  clear h
  by_cases c3 : a0 < 0
  · rw [if_pos c3] at H
    have c3b0 : decide (a0 < 0) = true := decide_eq_true c3
    clear c3
    replace H := Option.bind_eq_some_iff.mp H
    obtain ⟨t101, A40, H⟩ := H
    replace H : (if 1 + t101.size ≤ 9223372036854775807 then (some ((⟨#[45]⟩ : ByteArray) ++ t101)) else (none)) = some r := H
    have A4 := Aside0.mk A40
    clear A40
    by_cases c5 : 1 + t101.size ≤ 9223372036854775807
    · rw [if_pos c5] at H
      have c5b0 := eq_true c5
      have c5b1 : decide (1 + t101.size ≤ 9223372036854775807) = true := decide_eq_true c5
      try have c5b2 : (9223372036854775807 < 1 + t101.size) = False := eq_false (Nat.not_lt.2 c5)
      obtain rfl := Option.some.inj H
      go_enter Try.func78, Try.ntmps78
      go_wp2_with (first | ((with_reducible refine gate_callee (f := 87) rfl ?_); refine goesL_ (some 11) rfl rfl Try.func87 (by kernel_rfl) rfl #[.int .u64 (IntKind.u64.wrap (-(IntKind.u64.wrap (a0)))), .int .i64 a1] rfl (by (try simp only [List.map_toArray, List.map_cons, List.map_nil]); first | done | rfl | (simp only [List.length_drop, List.length_take]; rfl)) ?_; (with_reducible refine (lightstrconv_FormatUint.calls (IntKind.u64.wrap (-(IntKind.u64.wrap (a0)))) a1 t101 _ A4.out).mono ?_); rintro e w6 ⟨rfl, hb⟩; refine ⟨_, rfl, ?_⟩; have n0_ := Aside0.mk (below_step (by repeat (first | (with_reducible first | exact HB.out | apply below_alloc | apply pw_below_drewN | apply below_drew1) | exact HB.out)) hb); clear HB; have HB := n0_; clear n0_; (try clear hb); (try clear hb2); (try clear hk); (try clear hi)))
      go_ret
      exact ⟨by first | rfl | (simp [errW_none, errW_some] <;> rfl) | (simp [*, errW_none, errW_some] <;> rfl), by repeat (first | (with_reducible first | exact HB.out | apply below_alloc | apply pw_below_drewN | apply below_drew1) | exact HB.out)⟩
    · rw [if_neg c5] at H
      exact absurd H (by simp)
  · rw [if_neg c3] at H
    have c3b0 : decide (a0 < 0) = false := decide_eq_false c3
    clear c3
    replace H := Option.bind_eq_some_iff.mp H
    obtain ⟨t102, A70, H⟩ := H
    replace H : (some t102) = some r := H
    have A7 := Aside0.mk A70
    clear A70
    obtain rfl := Option.some.inj H
    go_enter Try.func78, Try.ntmps78
    go_wp2_with (first | ((with_reducible refine gate_callee (f := 87) rfl ?_); refine goesL_ (some 16) rfl rfl Try.func87 (by kernel_rfl) rfl #[.int .u64 (IntKind.u64.wrap (a0)), .int .i64 a1] rfl (by (try simp only [List.map_toArray, List.map_cons, List.map_nil]); first | done | rfl | (simp only [List.length_drop, List.length_take]; rfl)) ?_; (with_reducible refine (lightstrconv_FormatUint.calls (IntKind.u64.wrap (a0)) a1 t102 _ A7.out).mono ?_); rintro e w8 ⟨rfl, hb⟩; refine ⟨_, rfl, ?_⟩; have n0_ := Aside0.mk (below_step (by repeat (first | (with_reducible first | exact HB.out | apply below_alloc | apply pw_below_drewN | apply below_drew1) | exact HB.out)) hb); clear HB; have HB := n0_; clear n0_; (try clear hb); (try clear hb2); (try clear hk); (try clear hi)))
    go_ret
    exact ⟨by first | rfl | (simp [errW_none, errW_some] <;> rfl) | (simp [*, errW_none, errW_some] <;> rfl), by repeat (first | (with_reducible first | exact HB.out | apply below_alloc | apply pw_below_drewN | apply below_drew1) | exact HB.out)⟩

/-! ### lightstrconv_Itoa: function 68 -/
def lightstrconv_Itoa.f (a0 : Int) : Option (ByteArray) := (lightstrconv_FormatInt.f a0 10).bind fun t103 => (some t103)
set_option maxHeartbeats 8000000 in
set_option maxRecDepth 100000 in
theorem lightstrconv_Itoa.calls (a0 : Int) (r : ByteArray) (w : World) (h : lightstrconv_Itoa.f a0 = some r) :
    Calls Try.prog 68 #[.int .i64 a0] w fun e w' => e = .returned (.string r) ∧ Below w.heap.size w w' := by
  have HB := Aside0.mk (Below.refl w.heap.size w)
  have H : ((lightstrconv_FormatInt.f a0 10).bind fun t103 => (some t103)) = some r := h
  clear h
  replace H := Option.bind_eq_some_iff.mp H
  obtain ⟨t103, A20, H⟩ := H
  replace H : (some t103) = some r := H
  have A2 := Aside0.mk A20
  clear A20
  obtain rfl := Option.some.inj H
  go_enter Try.func68, Try.ntmps68
  go_wp2_with (first | ((with_reducible refine gate_callee (f := 78) rfl ?_); refine goesL_ (some 4) rfl rfl Try.func78 (by kernel_rfl) rfl #[.int .i64 a0, .int .i64 10] rfl (by (try simp only [List.map_toArray, List.map_cons, List.map_nil]); first | done | rfl | (simp only [List.length_drop, List.length_take]; rfl)) ?_; (with_reducible refine (lightstrconv_FormatInt.calls a0 10 t103 _ A2.out).mono ?_); rintro e w3 ⟨rfl, hb⟩; refine ⟨_, rfl, ?_⟩; have n0_ := Aside0.mk (below_step (by repeat (first | (with_reducible first | exact HB.out | apply below_alloc | apply pw_below_drewN | apply below_drew1) | exact HB.out)) hb); clear HB; have HB := n0_; clear n0_; (try clear hb); (try clear hb2); (try clear hk); (try clear hi)))
  go_ret
  exact ⟨by first | rfl | (simp [errW_none, errW_some] <;> rfl) | (simp [*, errW_none, errW_some] <;> rfl), by repeat (first | (with_reducible first | exact HB.out | apply below_alloc | apply pw_below_drewN | apply below_drew1) | exact HB.out)⟩

end Go.Proofs.Ytimefacdnabkdab.PItoa
