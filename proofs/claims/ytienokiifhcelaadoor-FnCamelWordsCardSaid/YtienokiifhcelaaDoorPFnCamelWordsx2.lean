-- Written by hprint.py, a program of this session
import Derived.Test.YtienokiifhcelaaDoorPFnCamelWordsx0
import Derived.Test.YtienokiifhcelaaDoorPFnCamelWordsx1
namespace Go.Proofs.YtienokiifhcelaaDoor.PFnCamelWords
open Go.RowKit Go.Proofs.YtienokiifhcelaaDoor.Hand Go.Proofs.YtienokiifhcelaaDoorW.PrintWords Go.Proofs.YtienokiifhcelaaDoorW.PrintLast Go.Proofs.YtienokiifhcelaaDoorW.PrintMore
attribute [local go_sem] max2_int min2_int max_two min_two max_three min_three max_four min_four   -- for this text's walks alone
set_option linter.unusedVariables false
set_option linter.unusedSimpArgs false

/-! ### laws_FnCamelWords: function 3 -/
mutual
def laws_FnCamelWords.j0 : Nat → List ByteArray → List Bool → Bool → Option (Bool)
  | 0, _, _, _ => none
  | k + 1, x0, x1, x15 => if x15 = true then (some true) else (if (x0.length : Int) > 20 then (some true) else (laws_FnCamelWords.l0 k x0 x1 (⟨#[]⟩ : ByteArray) ([] : List ByteArray) (x0.length : Int) 0))
def laws_FnCamelWords.l0 : Nat → List ByteArray → List Bool → ByteArray → List ByteArray → Int → Int → Option (Bool)
  | 0, _, _, _, _, _, _ => none
  | k + 1, x0, x1, x5, x6, x20, x21 => if x21 < x20 then (if 0 ≤ x21 then (if x21 < (x0.length : Int) then ((laws_twRuns.f k (rdOf ByteArray.empty x0 x21)).bind fun t111 => (if t111 = true then (if (rdOf ByteArray.empty x0 x21).toList = ([] : List UInt8) then (laws_FnCamelWords.j2 k x0 x1 x5 x6 x21 x20 x21 true) else (laws_FnCamelWords.j2 k x0 x1 x5 x6 x21 x20 x21 (decide (((rdOf ByteArray.empty x0 x21).size : Int) > 20)))) else (laws_FnCamelWords.j2 k x0 x1 x5 x6 x21 x20 x21 true))) else (none)) else (none)) else (if (x6.length : Int) ≥ (x0.length : Int) then ((impl_TwSplitCamelCase.f x5).bind fun t106 => ((spec_TwTexts.f k t106 x6).bind fun t109 => (some t109))) else (some false))
def laws_FnCamelWords.j2 : Nat → List ByteArray → List Bool → ByteArray → List ByteArray → Int → Int → Int → Bool → Option (Bool)
  | 0, _, _, _, _, _, _, _, _ => none
  | k + 1, x0, x1, x5, x6, x7, x20, x21, x44 => if x44 = true then (some true) else (if x7 > 0 then (if x7 < (x1.length : Int) then (if 0 ≤ x7 then (if rdOf false x1 x7 = true then (if x5.size + 1 ≤ 9223372036854775807 then (if x7 < (x0.length : Int) then (if (x5 ++ (⟨#[32]⟩ : ByteArray)).size + (rdOf ByteArray.empty x0 x7).size ≤ 9223372036854775807 then ((impl_TwSplitCamelCase.f (rdOf ByteArray.empty x0 x7)).bind fun t117 => (if x6.length + t117.length < 8796093022208 then (laws_FnCamelWords.l0 k x0 x1 ((x5 ++ (⟨#[32]⟩ : ByteArray)) ++ (rdOf ByteArray.empty x0 x7)) (x6 ++ t117) x20 (wrap64 (x21 + 1))) else (none))) else (none)) else (none)) else (none)) else (if x5.size + 1 ≤ 9223372036854775807 then (if x7 < (x0.length : Int) then (if (x5 ++ (⟨#[95]⟩ : ByteArray)).size + (rdOf ByteArray.empty x0 x7).size ≤ 9223372036854775807 then ((impl_TwSplitCamelCase.f (rdOf ByteArray.empty x0 x7)).bind fun t125 => (if x6.length + t125.length < 8796093022208 then (laws_FnCamelWords.l0 k x0 x1 ((x5 ++ (⟨#[95]⟩ : ByteArray)) ++ (rdOf ByteArray.empty x0 x7)) (x6 ++ t125) x20 (wrap64 (x21 + 1))) else (none))) else (none)) else (none)) else (none))) else (none)) else (if x5.size + 1 ≤ 9223372036854775807 then (if 0 ≤ x7 then (if x7 < (x0.length : Int) then (if (x5 ++ (⟨#[95]⟩ : ByteArray)).size + (rdOf ByteArray.empty x0 x7).size ≤ 9223372036854775807 then ((impl_TwSplitCamelCase.f (rdOf ByteArray.empty x0 x7)).bind fun t133 => (if x6.length + t133.length < 8796093022208 then (laws_FnCamelWords.l0 k x0 x1 ((x5 ++ (⟨#[95]⟩ : ByteArray)) ++ (rdOf ByteArray.empty x0 x7)) (x6 ++ t133) x20 (wrap64 (x21 + 1))) else (none))) else (none)) else (none)) else (none)) else (none))) else (if 0 ≤ x7 then (if x7 < (x0.length : Int) then (if x5.size + (rdOf ByteArray.empty x0 x7).size ≤ 9223372036854775807 then ((impl_TwSplitCamelCase.f (rdOf ByteArray.empty x0 x7)).bind fun t141 => (if x6.length + t141.length < 8796093022208 then (laws_FnCamelWords.l0 k x0 x1 (x5 ++ (rdOf ByteArray.empty x0 x7)) (x6 ++ t141) x20 (wrap64 (x21 + 1))) else (none))) else (none)) else (none)) else (none)))
end
def laws_FnCamelWords.f (k : Nat) (l0 : List ByteArray) (l1 : List Bool) : Option (Bool) := (laws_zzFits4.f k l0).bind fun t105 => (if t105 = true then (laws_FnCamelWords.j0 k l0 l1 (decide ((l1.length : Int) > 2147483647))) else (laws_FnCamelWords.j0 k l0 l1 true))
theorem laws_FnCamelWords.mono_l : ∀ k, (∀ y0 y1 y2, LeO (laws_FnCamelWords.j0 k y0 y1 y2) (laws_FnCamelWords.j0 (k + 1) y0 y1 y2)) ∧ (∀ y0 y1 y2 y3 y4 y5, LeO (laws_FnCamelWords.l0 k y0 y1 y2 y3 y4 y5) (laws_FnCamelWords.l0 (k + 1) y0 y1 y2 y3 y4 y5)) ∧ (∀ y0 y1 y2 y3 y4 y5 y6 y7, LeO (laws_FnCamelWords.j2 k y0 y1 y2 y3 y4 y5 y6 y7) (laws_FnCamelWords.j2 (k + 1) y0 y1 y2 y3 y4 y5 y6 y7))
  | 0 => ⟨fun _ _ _ r h => by simp [laws_FnCamelWords.j0] at h, fun _ _ _ _ _ _ r h => by simp [laws_FnCamelWords.l0] at h, fun _ _ _ _ _ _ _ _ r h => by simp [laws_FnCamelWords.j2] at h⟩
  | k + 1 => by
    obtain ⟨ih0, ih1, ih2⟩ := laws_FnCamelWords.mono_l k
    refine ⟨?_, ?_, ?_⟩
    · intro y0 y1 y2
      unfold laws_FnCamelWords.j0
      repeat' first
      | (with_reducible exact ih0 _ _ _)
      | (with_reducible exact ih1 _ _ _ _ _ _)
      | (with_reducible exact ih2 _ _ _ _ _ _ _ _)
      | (with_reducible exact laws_twRuns.mono _ _)
      | (with_reducible exact laws_zzFits4.mono _ _)
      | (with_reducible exact spec_TwTexts.mono _ _ _)
      | (with_reducible exact LeO.refl _)
      | (with_reducible exact LeO.none _)
      | (with_reducible refine LeO.ite ?_ ?_)
      | (with_reducible refine LeO.bind ?_ (fun _ => ?_))
      | exact ih0 _ _ _
      | exact ih1 _ _ _ _ _ _
      | exact ih2 _ _ _ _ _ _ _ _
      | exact laws_twRuns.mono _ _
      | exact laws_zzFits4.mono _ _
      | exact spec_TwTexts.mono _ _ _
      | exact LeO.none _
      | refine LeO.ite ?_ ?_
      | refine LeO.bind ?_ (fun _ => ?_)
    · intro y0 y1 y2 y3 y4 y5
      unfold laws_FnCamelWords.l0
      repeat' first
      | (with_reducible exact ih0 _ _ _)
      | (with_reducible exact ih1 _ _ _ _ _ _)
      | (with_reducible exact ih2 _ _ _ _ _ _ _ _)
      | (with_reducible exact laws_twRuns.mono _ _)
      | (with_reducible exact laws_zzFits4.mono _ _)
      | (with_reducible exact spec_TwTexts.mono _ _ _)
      | (with_reducible exact LeO.refl _)
      | (with_reducible exact LeO.none _)
      | (with_reducible refine LeO.ite ?_ ?_)
      | (with_reducible refine LeO.bind ?_ (fun _ => ?_))
      | exact ih0 _ _ _
      | exact ih1 _ _ _ _ _ _
      | exact ih2 _ _ _ _ _ _ _ _
      | exact laws_twRuns.mono _ _
      | exact laws_zzFits4.mono _ _
      | exact spec_TwTexts.mono _ _ _
      | exact LeO.none _
      | refine LeO.ite ?_ ?_
      | refine LeO.bind ?_ (fun _ => ?_)
    · intro y0 y1 y2 y3 y4 y5 y6 y7
      unfold laws_FnCamelWords.j2
      repeat' first
      | (with_reducible exact ih0 _ _ _)
      | (with_reducible exact ih1 _ _ _ _ _ _)
      | (with_reducible exact ih2 _ _ _ _ _ _ _ _)
      | (with_reducible exact laws_twRuns.mono _ _)
      | (with_reducible exact laws_zzFits4.mono _ _)
      | (with_reducible exact spec_TwTexts.mono _ _ _)
      | (with_reducible exact LeO.refl _)
      | (with_reducible exact LeO.none _)
      | (with_reducible refine LeO.ite ?_ ?_)
      | (with_reducible refine LeO.bind ?_ (fun _ => ?_))
      | exact ih0 _ _ _
      | exact ih1 _ _ _ _ _ _
      | exact ih2 _ _ _ _ _ _ _ _
      | exact laws_twRuns.mono _ _
      | exact laws_zzFits4.mono _ _
      | exact spec_TwTexts.mono _ _ _
      | exact LeO.none _
      | refine LeO.ite ?_ ?_
      | refine LeO.bind ?_ (fun _ => ?_)
theorem laws_FnCamelWords.mono : ∀ a0 a1 k, LeO (laws_FnCamelWords.f k a0 a1) (laws_FnCamelWords.f (k + 1) a0 a1) := by
  intro a0 a1 k
  obtain ⟨ih0, ih1, ih2⟩ := laws_FnCamelWords.mono_l k
  unfold laws_FnCamelWords.f
  repeat' first
      | (with_reducible exact ih0 _ _ _)
      | (with_reducible exact ih1 _ _ _ _ _ _)
      | (with_reducible exact ih2 _ _ _ _ _ _ _ _)
      | (with_reducible exact laws_twRuns.mono _ _)
      | (with_reducible exact laws_zzFits4.mono _ _)
      | (with_reducible exact spec_TwTexts.mono _ _ _)
      | (with_reducible exact LeO.refl _)
      | (with_reducible exact LeO.none _)
      | (with_reducible refine LeO.ite ?_ ?_)
      | (with_reducible refine LeO.bind ?_ (fun _ => ?_))
      | exact ih0 _ _ _
      | exact ih1 _ _ _ _ _ _
      | exact ih2 _ _ _ _ _ _ _ _
      | exact laws_twRuns.mono _ _
      | exact laws_zzFits4.mono _ _
      | exact spec_TwTexts.mono _ _ _
      | exact LeO.none _
      | refine LeO.ite ?_ ?_
      | refine LeO.bind ?_ (fun _ => ?_)
set_option maxHeartbeats 8000000 in
set_option maxRecDepth 100000 in
theorem laws_FnCamelWords.calls (k : Nat) (A0 : Option Addr) (c0 : Nat) (l0 : List ByteArray) (A1 : Option Addr) (c1 : Nat) (l1 : List Bool) (r : Bool) (w : World) (hT : LaidW w) (hr0 : Kd.C Kd.string w A0 l0.length l0) (hc0 : l0.length ≤ c0) (hr1 : Kd.C Kd.bool w A1 l1.length l1) (hc1 : l1.length ≤ c1) (h : laws_FnCamelWords.f k l0 l1 = some r) :
    Calls Tryd.prog 3 #[.slice A0 l0.length c0, .slice A1 l1.length c1] w fun e w' => e = .returned (.bool r) ∧ Below w.heap.size w w' := by
  have HR0 := Aside0.mk hr0
  have HC0 := Aside0.mk hc0
  clear hr0 hc0
  have HR1 := Aside0.mk hr1
  have HC1 := Aside0.mk hc1
  clear hr1 hc1
  have HB := Aside0.mk (Below.refl w.heap.size w)
  have H : ((laws_zzFits4.f k l0).bind fun t105 => (if t105 = true then (laws_FnCamelWords.j0 k l0 l1 (decide ((l1.length : Int) > 2147483647))) else (laws_FnCamelWords.j0 k l0 l1 true))) = some r := h
  clear h
  have HC3 := Aside0.mk H
  clear H
  go_enter Tryd.func3, Tryd.ntmps3
  go_upto_region 1 with (fail)
  go_cut [15] (fun v15 wc => ∃ (kq : Nat) (x15_2 : Bool), v15 = .bool x15_2 ∧ Aside0 (laws_FnCamelWords.j0 kq l0 l1 x15_2 = some r) ∧ Aside0 (kq ≤ k) ∧ Aside0 (Below w.heap.size w wc))
  case first =>
    have H := HC3.out
    clear HC3
    replace H := Option.bind_eq_some_iff.mp H
    obtain ⟨t105, A40, H⟩ := H
    replace H : (if t105 = true then (laws_FnCamelWords.j0 k l0 l1 (decide ((l1.length : Int) > 2147483647))) else (laws_FnCamelWords.j0 k l0 l1 true)) = some r := H
    have A4 := Aside0.mk A40
    clear A40
    by_cases c5 : t105 = true
    · subst c5
      have H1 : (laws_FnCamelWords.j0 k l0 l1 (decide ((l1.length : Int) > 2147483647))) = some r := by rw [if_pos rfl] at H; exact H
      clear H
      have H := H1
      clear H1
      have H' := Aside0.mk H
      clear H
      go_wp2_with (first | ((with_reducible refine gate_callee (f := 4) rfl ?_); refine goesL_ (some 9) rfl rfl Tryd.func4 (by kernel_rfl) rfl #[.slice A0 l0.length c0] rfl (by (try simp only [List.map_toArray, List.map_cons, List.map_nil]); first | done | rfl | (simp only [List.length_drop, List.length_take]; rfl)) ?_; (with_reducible refine (laws_zzFits4.calls k _ _ l0 true _ ?side1 ?side2 A4.out).mono ?_); (case side1 => repeat (first | exact (Kd.C_below HR0.out HB.out) | (with_reducible refine Kd.C_alloc ?_ _) | (with_reducible refine Kd.C_drewN ?_ _) | (with_reducible refine Kd.C_drew ?_))); (case side2 => exact HC0.out); rintro e w' ⟨rfl, ⟨nd, rfl⟩⟩; refine ⟨_, rfl, ?_⟩))
      go_meet
      case rel => exact ⟨_, (decide ((l1.length : Int) > 2147483647)), (by first | rfl | (simp; done) | (simp [*]; done)), H', ⟨by first | omega | exact Nat.le_refl _⟩, ⟨by repeat (first | (with_reducible first | exact HB.out | apply below_alloc | apply pw_below_drewN | apply below_drew1) | exact HB.out)⟩⟩
    · replace c5 := Bool.eq_false_iff.mpr c5
      subst c5
      have H1 : (laws_FnCamelWords.j0 k l0 l1 true) = some r := by rw [if_neg (show ¬ (false = true) by decide)] at H; exact H
      clear H
      have H := H1
      clear H1
      have H' := Aside0.mk H
      clear H
      go_wp2_with (first | ((with_reducible refine gate_callee (f := 4) rfl ?_); refine goesL_ (some 9) rfl rfl Tryd.func4 (by kernel_rfl) rfl #[.slice A0 l0.length c0] rfl (by (try simp only [List.map_toArray, List.map_cons, List.map_nil]); first | done | rfl | (simp only [List.length_drop, List.length_take]; rfl)) ?_; (with_reducible refine (laws_zzFits4.calls k _ _ l0 false _ ?side1 ?side2 A4.out).mono ?_); (case side1 => repeat (first | exact (Kd.C_below HR0.out HB.out) | (with_reducible refine Kd.C_alloc ?_ _) | (with_reducible refine Kd.C_drewN ?_ _) | (with_reducible refine Kd.C_drew ?_))); (case side2 => exact HC0.out); rintro e w' ⟨rfl, ⟨nd, rfl⟩⟩; refine ⟨_, rfl, ?_⟩))
      go_meet
      case rel => exact ⟨_, (true), (by first | rfl | (simp; done) | (simp [*]; done)), H', ⟨by first | omega | exact Nat.le_refl _⟩, ⟨by repeat (first | (with_reducible first | exact HB.out | apply below_alloc | apply pw_below_drewN | apply below_drew1) | exact HB.out)⟩⟩
  case rest =>
    clear HC3
    try clear c1
    try clear p2
    try clear c3
    try clear c4
    try clear c5
    obtain ⟨kq, x15_2, rfl, HA, HJ2, HB⟩ := hcut
    cases kq with
    | zero => exact absurd HA.out (by simp [laws_FnCamelWords.j0])
    | succ kj2 =>
      have H := HA.out
      clear HA
      simp only [laws_FnCamelWords.j0] at H
      by_cases c6 : x15_2 = true
      · subst c6
        have H1 : (some true) = some r := by rw [if_pos rfl] at H; exact H
        clear H
        have H := H1
        clear H1
        obtain rfl := Option.some.inj H
        go_wp2
        go_ret
        exact ⟨by first | rfl | (simp [errW_none, errW_some] <;> rfl) | (simp [errW_none, errW_some, It.bne_nil] <;> rfl) | (simp [errW_none, errW_some, It.bne_nil]; done) | (simp [*, errW_none, errW_some] <;> rfl), by repeat (first | (with_reducible first | exact HB.out | apply below_alloc | apply pw_below_drewN | apply below_drew1) | exact HB.out)⟩
      · replace c6 := Bool.eq_false_iff.mpr c6
        subst c6
        have H1 : (if (l0.length : Int) > 20 then (some true) else (laws_FnCamelWords.l0 kj2 l0 l1 (⟨#[]⟩ : ByteArray) ([] : List ByteArray) (l0.length : Int) 0)) = some r := by rw [if_neg (show ¬ (false = true) by decide)] at H; exact H
        clear H
        have H := H1
        clear H1
        by_cases c7 : (l0.length : Int) > 20
        · rw [if_pos c7] at H
          have c7b0 : decide (20 < (l0.length : Int)) = true := decide_eq_true c7
          have c7b1 : decide (20 < l0.length) = true := decide_eq_true (by omega)
          clear c7
          obtain rfl := Option.some.inj H
          go_wp2
          go_ret
          exact ⟨by first | rfl | (simp [errW_none, errW_some] <;> rfl) | (simp [errW_none, errW_some, It.bne_nil] <;> rfl) | (simp [errW_none, errW_some, It.bne_nil]; done) | (simp [*, errW_none, errW_some] <;> rfl), by repeat (first | (with_reducible first | exact HB.out | apply below_alloc | apply pw_below_drewN | apply below_drew1) | exact HB.out)⟩
        · rw [if_neg c7] at H
          have c7b0 : decide (20 < (l0.length : Int)) = false := decide_eq_false c7
          have c7b1 : decide (20 < l0.length) = false := decide_eq_false (by omega)
          clear c7
          have H' := Aside0.mk H
          clear H
          go_wp2
          go_loopg [5, 6, 21] kj2 (fun kq v5 v6 v21 w' => ∃ (x5_2 : ByteArray) (x6_2 : List ByteArray) (x21_2 : Int), v5 = .string x5_2 ∧ v21 = .int .i64 x21_2 ∧ Aside0 (laws_FnCamelWords.l0 kq l0 l1 x5_2 x6_2 (l0.length : Int) x21_2 = some r) ∧ Aside0 (kq ≤ kj2) ∧ Aside0 (Kd.R Kd.string 9 w' w.heap.size (fun _ => True) v6 x6_2) ∧ Aside0 (Below w.heap.size w w'))
          case atStart => exact ⟨((⟨#[]⟩ : ByteArray)), (([] : List ByteArray)), (0), (by first | rfl | (simp; done) | (simp [*]; done)), (by first | rfl | (simp; done) | (simp [*]; done)), H', ⟨Nat.le_refl _⟩, ⟨by first | exact Kd.R_nil _ _ _ _ _ | exact Kd.N_nil _ _ _ _ _ | exact Kd.V_nil _ _ _ _ _ | exact Kd.Q_nil _ _ _ _ _ | exact Kd.S_nil _ _ _ _ _⟩, ⟨by repeat (first | (with_reducible first | exact HB.out | apply below_alloc | apply pw_below_drewN | apply below_drew1) | exact HB.out)⟩⟩
          case round =>
            clear H'
            try clear c1
            try clear p2
            try clear c3
            try clear c4
            try clear c5
            try clear c6
            try clear c7
            try clear c7b0
            try clear c7b1
            try clear p2
            obtain ⟨x5_2, x6_2, x21_2, rfl, rfl, HA, HK2, HO_6, HB⟩ := hrel
            cases gk with
            | zero => exact absurd HA.out (by simp [laws_FnCamelWords.l0])
            | succ k2 =>
              have H := HA.out
              clear HA
              simp only [laws_FnCamelWords.l0] at H
              by_cases c8 : x21_2 < (l0.length : Int)
              · rw [if_pos c8] at H
                have c8b0 : decide (x21_2 < (l0.length : Int)) = true := decide_eq_true c8
                clear c8
                have HC9 := Aside0.mk H
                clear H
                go_upto_region 10 with (fail)
                go_cut [44] (fun v44 wc => ∃ (kq : Nat) (x44_8 : Bool), v44 = .bool x44_8 ∧ Aside0 (laws_FnCamelWords.j2 kq l0 l1 x5_2 x6_2 x21_2 (l0.length : Int) x21_2 x44_8 = some r) ∧ Aside0 (kq ≤ k2) ∧ Aside0 (Kd.R Kd.string 9 wc w.heap.size (fun _ => True) u6 x6_2) ∧ Aside0 (Below w.heap.size w wc))
                case first =>
                  have H := HC9.out
                  clear HC9
                  by_cases c10 : 0 ≤ x21_2
                  · rw [if_pos c10] at H
                    have c10b0 : decide (0 ≤ x21_2) = true := decide_eq_true c10
                    clear c10
                    (first | rw [c10b0] | (simp only [i64_w, i32_w]; rw [c10b0]) | skip)
                    by_cases c11 : x21_2 < (l0.length : Int)
                    · rw [if_pos c11] at H
                      have c11b0 : decide (x21_2 < (l0.length : Int)) = true := decide_eq_true c11
                      clear c11
                      replace H := Option.bind_eq_some_iff.mp H
                      obtain ⟨t111, A120, H⟩ := H
                      replace H : (if t111 = true then (if (rdOf ByteArray.empty l0 x21_2).toList = ([] : List UInt8) then (laws_FnCamelWords.j2 k2 l0 l1 x5_2 x6_2 x21_2 (l0.length : Int) x21_2 true) else (laws_FnCamelWords.j2 k2 l0 l1 x5_2 x6_2 x21_2 (l0.length : Int) x21_2 (decide (((rdOf ByteArray.empty l0 x21_2).size : Int) > 20)))) else (laws_FnCamelWords.j2 k2 l0 l1 x5_2 x6_2 x21_2 (l0.length : Int) x21_2 true)) = some r := H
                      have A12 := Aside0.mk A120
                      clear A120
                      by_cases c13 : t111 = true
                      · subst c13
                        have H1 : (if (rdOf ByteArray.empty l0 x21_2).toList = ([] : List UInt8) then (laws_FnCamelWords.j2 k2 l0 l1 x5_2 x6_2 x21_2 (l0.length : Int) x21_2 true) else (laws_FnCamelWords.j2 k2 l0 l1 x5_2 x6_2 x21_2 (l0.length : Int) x21_2 (decide (((rdOf ByteArray.empty l0 x21_2).size : Int) > 20)))) = some r := by rw [if_pos rfl] at H; exact H
                        clear H
                        have H := H1
                        clear H1
                        by_cases c14 : (rdOf ByteArray.empty l0 x21_2).toList = ([] : List UInt8)
                        · rw [if_pos c14] at H
                          have c14b0 : ((rdOf ByteArray.empty l0 x21_2).toList == ([] : List UInt8)) = true := beq_iff_eq.mpr c14
                          have c14b1 : ((rdOf ByteArray.empty l0 x21_2).toList != ([] : List UInt8)) = false := bne_eq_false_iff_eq.mpr c14
                          clear c14
                          have H' := Aside0.mk H
                          clear H
                          have p110 : 0 ≤ (x21_2 : Int) := of_decide_eq_true (by first | (with_reducible assumption) | assumption)
                          have q110 : x21_2 < (l0.length : Int) := of_decide_eq_true (by first | (with_reducible assumption) | assumption)
                          obtain ⟨ad110, e110, hx110_0⟩ := Kd.at_string HR0.out x21_2 p110 q110
                          cases e110
                          replace hx110_0 := (HB.out.cell (World.block_lt_of_cell? w _ hx110_0)).trans hx110_0
                          (try simp only [Go.IntWalk.toNatUp] at hx110_0)
                          replace p110 := eq_true p110
                          replace q110 := eq_true q110
                          go_wp2_with (first | ((with_reducible refine gate_callee (f := 5) rfl ?_); refine goesL_ (some 28) rfl rfl Tryd.func5 (by kernel_rfl) rfl #[.string (rdOf ByteArray.empty l0 x21_2)] rfl (by (try simp only [List.map_toArray, List.map_cons, List.map_nil]); first | done | rfl | (simp only [List.length_drop, List.length_take]; rfl)) ?_; (with_reducible refine (laws_twRuns.calls k2 (rdOf ByteArray.empty l0 x21_2) true _ A12.out).mono ?_); rintro e w' ⟨rfl, ⟨nd, rfl⟩⟩; refine ⟨_, rfl, ?_⟩; have p112 : 0 ≤ (x21_2 : Int) := of_decide_eq_true (by first | (with_reducible assumption) | assumption); have q112 : x21_2 < (l0.length : Int) := of_decide_eq_true (by first | (with_reducible assumption) | assumption); obtain ⟨ad112, e112, hx112_0⟩ := Kd.at_string HR0.out x21_2 p112 q112; obtain rfl : ad110 = ad112 := (by injection e112); replace hx112_0 := (HB.out.cell (World.block_lt_of_cell? w _ hx112_0)).trans hx112_0; (try simp only [Go.IntWalk.toNatUp] at hx112_0); replace p112 := eq_true p112; replace q112 := eq_true q112))
                          go_meet
                          case rel => exact ⟨_, (true), (by first | rfl | (simp; done) | (simp [*]; done)), H', ⟨by have := HJ2.out; have := HK2.out; first | omega | exact Nat.le_refl _⟩, ⟨by (with_reducible repeat (first | apply Kd.R_alloc | apply Kd.R_drewN | apply Kd.R_drew)); exact HO_6.out⟩, ⟨by repeat (first | (with_reducible first | exact HB.out | apply below_alloc | apply pw_below_drewN | apply below_drew1) | exact HB.out)⟩⟩
                        · rw [if_neg c14] at H
                          have c14b0 : ((rdOf ByteArray.empty l0 x21_2).toList == ([] : List UInt8)) = false := beq_eq_false_iff_ne.mpr c14
                          have c14b1 : ((rdOf ByteArray.empty l0 x21_2).toList != ([] : List UInt8)) = true := bne_iff_ne.mpr c14
                          have H' := Aside0.mk H
                          clear H
                          have p110 : 0 ≤ (x21_2 : Int) := of_decide_eq_true (by first | (with_reducible assumption) | assumption)
                          have q110 : x21_2 < (l0.length : Int) := of_decide_eq_true (by first | (with_reducible assumption) | assumption)
                          obtain ⟨ad110, e110, hx110_0⟩ := Kd.at_string HR0.out x21_2 p110 q110
                          cases e110
                          replace hx110_0 := (HB.out.cell (World.block_lt_of_cell? w _ hx110_0)).trans hx110_0
                          (try simp only [Go.IntWalk.toNatUp] at hx110_0)
                          replace p110 := eq_true p110
                          replace q110 := eq_true q110
                          go_wp2_with (first | ((with_reducible refine gate_callee (f := 5) rfl ?_); refine goesL_ (some 28) rfl rfl Tryd.func5 (by kernel_rfl) rfl #[.string (rdOf ByteArray.empty l0 x21_2)] rfl (by (try simp only [List.map_toArray, List.map_cons, List.map_nil]); first | done | rfl | (simp only [List.length_drop, List.length_take]; rfl)) ?_; (with_reducible refine (laws_twRuns.calls k2 (rdOf ByteArray.empty l0 x21_2) true _ A12.out).mono ?_); rintro e w' ⟨rfl, ⟨nd, rfl⟩⟩; refine ⟨_, rfl, ?_⟩; have p112 : 0 ≤ (x21_2 : Int) := of_decide_eq_true (by first | (with_reducible assumption) | assumption); have q112 : x21_2 < (l0.length : Int) := of_decide_eq_true (by first | (with_reducible assumption) | assumption); obtain ⟨ad112, e112, hx112_0⟩ := Kd.at_string HR0.out x21_2 p112 q112; obtain rfl : ad110 = ad112 := (by injection e112); replace hx112_0 := (HB.out.cell (World.block_lt_of_cell? w _ hx112_0)).trans hx112_0; (try simp only [Go.IntWalk.toNatUp] at hx112_0); replace p112 := eq_true p112; replace q112 := eq_true q112; have p113 : 0 ≤ (x21_2 : Int) := of_decide_eq_true (by first | (with_reducible assumption) | assumption); have q113 : x21_2 < (l0.length : Int) := of_decide_eq_true (by first | (with_reducible assumption) | assumption); obtain ⟨ad113, e113, hx113_0⟩ := Kd.at_string HR0.out x21_2 p113 q113; obtain rfl : ad110 = ad113 := (by injection e113); replace hx113_0 := (HB.out.cell (World.block_lt_of_cell? w _ hx113_0)).trans hx113_0; (try simp only [Go.IntWalk.toNatUp] at hx113_0); replace p113 := eq_true p113; replace q113 := eq_true q113))
                          go_meet
                          case rel => exact ⟨_, (decide (((rdOf ByteArray.empty l0 x21_2).size : Int) > 20)), (by first | rfl | (simp; done) | (simp [*]; done)), H', ⟨by have := HJ2.out; have := HK2.out; first | omega | exact Nat.le_refl _⟩, ⟨by (with_reducible repeat (first | apply Kd.R_alloc | apply Kd.R_drewN | apply Kd.R_drew)); exact HO_6.out⟩, ⟨by repeat (first | (with_reducible first | exact HB.out | apply below_alloc | apply pw_below_drewN | apply below_drew1) | exact HB.out)⟩⟩
                      · replace c13 := Bool.eq_false_iff.mpr c13
                        subst c13
                        have H1 : (laws_FnCamelWords.j2 k2 l0 l1 x5_2 x6_2 x21_2 (l0.length : Int) x21_2 true) = some r := by rw [if_neg (show ¬ (false = true) by decide)] at H; exact H
                        clear H
                        have H := H1
                        clear H1
                        have H' := Aside0.mk H
                        clear H
                        have p110 : 0 ≤ (x21_2 : Int) := of_decide_eq_true (by first | (with_reducible assumption) | assumption)
                        have q110 : x21_2 < (l0.length : Int) := of_decide_eq_true (by first | (with_reducible assumption) | assumption)
                        obtain ⟨ad110, e110, hx110_0⟩ := Kd.at_string HR0.out x21_2 p110 q110
                        cases e110
                        replace hx110_0 := (HB.out.cell (World.block_lt_of_cell? w _ hx110_0)).trans hx110_0
                        (try simp only [Go.IntWalk.toNatUp] at hx110_0)
                        replace p110 := eq_true p110
                        replace q110 := eq_true q110
                        go_wp2_with (first | ((with_reducible refine gate_callee (f := 5) rfl ?_); refine goesL_ (some 28) rfl rfl Tryd.func5 (by kernel_rfl) rfl #[.string (rdOf ByteArray.empty l0 x21_2)] rfl (by (try simp only [List.map_toArray, List.map_cons, List.map_nil]); first | done | rfl | (simp only [List.length_drop, List.length_take]; rfl)) ?_; (with_reducible refine (laws_twRuns.calls k2 (rdOf ByteArray.empty l0 x21_2) false _ A12.out).mono ?_); rintro e w' ⟨rfl, ⟨nd, rfl⟩⟩; refine ⟨_, rfl, ?_⟩))
                        go_meet
                        case rel => exact ⟨_, (true), (by first | rfl | (simp; done) | (simp [*]; done)), H', ⟨by have := HJ2.out; have := HK2.out; first | omega | exact Nat.le_refl _⟩, ⟨by (with_reducible repeat (first | apply Kd.R_alloc | apply Kd.R_drewN | apply Kd.R_drew)); exact HO_6.out⟩, ⟨by repeat (first | (with_reducible first | exact HB.out | apply below_alloc | apply pw_below_drewN | apply below_drew1) | exact HB.out)⟩⟩
                    · rw [if_neg c11] at H
                      exact absurd H (by simp)
                  · rw [if_neg c10] at H
                    exact absurd H (by simp)
                case rest =>
                  clear HC9
                  try clear c1
                  try clear p1
                  try clear q1
                  try clear hx1
                  try clear p2
                  try clear c3
                  try clear c4
                  try clear c5
                  try clear c6
                  try clear c7
                  try clear c7b0
                  try clear c7b1
                  try clear c8
                  try clear c8b0
                  try clear c10
                  try clear c10b0
                  try clear c11
                  try clear c11b0
                  try clear p11
                  try clear q11
                  try clear hx11
                  try clear c13
                  try clear c14
                  try clear c14b0
                  try clear c14b1
                  try clear hx110_0
                  try clear hx112_0
                  try clear hx113_0
                  try clear p110
                  try clear p112
                  try clear p113
                  try clear p2
                  try clear q110
                  try clear q112
                  try clear q113
                  obtain ⟨kq, x44_8, rfl, HA, HJ8, HO_6, HB⟩ := hcut
                  cases kq with
                  | zero => exact absurd HA.out (by simp [laws_FnCamelWords.j2])
                  | succ kj8 =>
                    have H := HA.out
                    clear HA
                    simp only [laws_FnCamelWords.j2] at H
                    by_cases c15 : x44_8 = true
                    · subst c15
                      have H1 : (some true) = some r := by rw [if_pos rfl] at H; exact H
                      clear H
                      have H := H1
                      clear H1
                      obtain rfl := Option.some.inj H
                      go_wp2
                      go_ret
                      exact ⟨by first | rfl | (simp [errW_none, errW_some] <;> rfl) | (simp [errW_none, errW_some, It.bne_nil] <;> rfl) | (simp [errW_none, errW_some, It.bne_nil]; done) | (simp [*, errW_none, errW_some] <;> rfl), by repeat (first | (with_reducible first | exact HB.out | apply below_alloc | apply pw_below_drewN | apply below_drew1) | exact HB.out)⟩
                    · replace c15 := Bool.eq_false_iff.mpr c15
                      subst c15
                      have H1 : (if x21_2 > 0 then (if x21_2 < (l1.length : Int) then (if 0 ≤ x21_2 then (if rdOf false l1 x21_2 = true then (if x5_2.size + 1 ≤ 9223372036854775807 then (if x21_2 < (l0.length : Int) then (if (x5_2 ++ (⟨#[32]⟩ : ByteArray)).size + (rdOf ByteArray.empty l0 x21_2).size ≤ 9223372036854775807 then ((impl_TwSplitCamelCase.f (rdOf ByteArray.empty l0 x21_2)).bind fun t117 => (if x6_2.length + t117.length < 8796093022208 then (laws_FnCamelWords.l0 kj8 l0 l1 ((x5_2 ++ (⟨#[32]⟩ : ByteArray)) ++ (rdOf ByteArray.empty l0 x21_2)) (x6_2 ++ t117) (l0.length : Int) (wrap64 (x21_2 + 1))) else (none))) else (none)) else (none)) else (none)) else (if x5_2.size + 1 ≤ 9223372036854775807 then (if x21_2 < (l0.length : Int) then (if (x5_2 ++ (⟨#[95]⟩ : ByteArray)).size + (rdOf ByteArray.empty l0 x21_2).size ≤ 9223372036854775807 then ((impl_TwSplitCamelCase.f (rdOf ByteArray.empty l0 x21_2)).bind fun t125 => (if x6_2.length + t125.length < 8796093022208 then (laws_FnCamelWords.l0 kj8 l0 l1 ((x5_2 ++ (⟨#[95]⟩ : ByteArray)) ++ (rdOf ByteArray.empty l0 x21_2)) (x6_2 ++ t125) (l0.length : Int) (wrap64 (x21_2 + 1))) else (none))) else (none)) else (none)) else (none))) else (none)) else (if x5_2.size + 1 ≤ 9223372036854775807 then (if 0 ≤ x21_2 then (if x21_2 < (l0.length : Int) then (if (x5_2 ++ (⟨#[95]⟩ : ByteArray)).size + (rdOf ByteArray.empty l0 x21_2).size ≤ 9223372036854775807 then ((impl_TwSplitCamelCase.f (rdOf ByteArray.empty l0 x21_2)).bind fun t133 => (if x6_2.length + t133.length < 8796093022208 then (laws_FnCamelWords.l0 kj8 l0 l1 ((x5_2 ++ (⟨#[95]⟩ : ByteArray)) ++ (rdOf ByteArray.empty l0 x21_2)) (x6_2 ++ t133) (l0.length : Int) (wrap64 (x21_2 + 1))) else (none))) else (none)) else (none)) else (none)) else (none))) else (if 0 ≤ x21_2 then (if x21_2 < (l0.length : Int) then (if x5_2.size + (rdOf ByteArray.empty l0 x21_2).size ≤ 9223372036854775807 then ((impl_TwSplitCamelCase.f (rdOf ByteArray.empty l0 x21_2)).bind fun t141 => (if x6_2.length + t141.length < 8796093022208 then (laws_FnCamelWords.l0 kj8 l0 l1 (x5_2 ++ (rdOf ByteArray.empty l0 x21_2)) (x6_2 ++ t141) (l0.length : Int) (wrap64 (x21_2 + 1))) else (none))) else (none)) else (none)) else (none))) = some r := by rw [if_neg (show ¬ (false = true) by decide)] at H; exact H
                      clear H
                      have H := H1
                      clear H1
                      by_cases c16 : x21_2 > 0
                      · rw [if_pos c16] at H
                        have c16b0 : decide (0 < x21_2) = true := decide_eq_true c16
                        clear c16
                        by_cases c17 : x21_2 < (l1.length : Int)
                        · rw [if_pos c17] at H
                          have c17b0 : decide (x21_2 < (l1.length : Int)) = true := decide_eq_true c17
                          clear c17
                          by_cases c18 : 0 ≤ x21_2
                          · rw [if_pos c18] at H
                            have c18b0 : decide (0 ≤ x21_2) = true := decide_eq_true c18
                            clear c18
                            obtain ⟨bq19, hbq19⟩ : ∃ b_ : Bool, b_ = (rdOf false l1 x21_2) := ⟨_, rfl⟩
                            replace H : (if bq19 = true then (if x5_2.size + 1 ≤ 9223372036854775807 then (if x21_2 < (l0.length : Int) then (if (x5_2 ++ (⟨#[32]⟩ : ByteArray)).size + (rdOf ByteArray.empty l0 x21_2).size ≤ 9223372036854775807 then ((impl_TwSplitCamelCase.f (rdOf ByteArray.empty l0 x21_2)).bind fun t117 => (if x6_2.length + t117.length < 8796093022208 then (laws_FnCamelWords.l0 kj8 l0 l1 ((x5_2 ++ (⟨#[32]⟩ : ByteArray)) ++ (rdOf ByteArray.empty l0 x21_2)) (x6_2 ++ t117) (l0.length : Int) (wrap64 (x21_2 + 1))) else (none))) else (none)) else (none)) else (none)) else (if x5_2.size + 1 ≤ 9223372036854775807 then (if x21_2 < (l0.length : Int) then (if (x5_2 ++ (⟨#[95]⟩ : ByteArray)).size + (rdOf ByteArray.empty l0 x21_2).size ≤ 9223372036854775807 then ((impl_TwSplitCamelCase.f (rdOf ByteArray.empty l0 x21_2)).bind fun t125 => (if x6_2.length + t125.length < 8796093022208 then (laws_FnCamelWords.l0 kj8 l0 l1 ((x5_2 ++ (⟨#[95]⟩ : ByteArray)) ++ (rdOf ByteArray.empty l0 x21_2)) (x6_2 ++ t125) (l0.length : Int) (wrap64 (x21_2 + 1))) else (none))) else (none)) else (none)) else (none))) = some r := by rw [← hbq19] at H; exact H
                            have Nbq19 := Aside0.mk hbq19
                            clear hbq19
                            by_cases c20 : bq19 = true
                            · subst c20
                              have H1 : (if x5_2.size + 1 ≤ 9223372036854775807 then (if x21_2 < (l0.length : Int) then (if (x5_2 ++ (⟨#[32]⟩ : ByteArray)).size + (rdOf ByteArray.empty l0 x21_2).size ≤ 9223372036854775807 then ((impl_TwSplitCamelCase.f (rdOf ByteArray.empty l0 x21_2)).bind fun t117 => (if x6_2.length + t117.length < 8796093022208 then (laws_FnCamelWords.l0 kj8 l0 l1 ((x5_2 ++ (⟨#[32]⟩ : ByteArray)) ++ (rdOf ByteArray.empty l0 x21_2)) (x6_2 ++ t117) (l0.length : Int) (wrap64 (x21_2 + 1))) else (none))) else (none)) else (none)) else (none)) = some r := by rw [if_pos rfl] at H; exact H
                              clear H
                              have H := H1
                              clear H1
                              by_cases c21 : x5_2.size + 1 ≤ 9223372036854775807
                              · rw [if_pos c21] at H
                                have c21b0 := eq_true c21
                                have c21b1 : decide (x5_2.size + 1 ≤ 9223372036854775807) = true := decide_eq_true c21
                                try have c21b2 : (9223372036854775807 < x5_2.size + 1) = False := eq_false (Nat.not_lt.2 c21)
                                by_cases c22 : x21_2 < (l0.length : Int)
                                · rw [if_pos c22] at H
                                  have c22b0 : decide (x21_2 < (l0.length : Int)) = true := decide_eq_true c22
                                  clear c22
                                  by_cases c23 : (x5_2 ++ (⟨#[32]⟩ : ByteArray)).size + (rdOf ByteArray.empty l0 x21_2).size ≤ 9223372036854775807
                                  · rw [if_pos c23] at H
                                    have c23b0 := eq_true c23
                                    have c23b1 : decide ((x5_2 ++ (⟨#[32]⟩ : ByteArray)).size + (rdOf ByteArray.empty l0 x21_2).size ≤ 9223372036854775807) = true := decide_eq_true c23
                                    try have c23b2 : (9223372036854775807 < (x5_2 ++ (⟨#[32]⟩ : ByteArray)).size + (rdOf ByteArray.empty l0 x21_2).size) = False := eq_false (Nat.not_lt.2 c23)
                                    try have c23b3 : (9223372036854775807 < x5_2.size + 1 + (rdOf ByteArray.empty l0 x21_2).size) = False := eq_false (Nat.not_lt.2 (by have z_ := c23; simp only [ByteArray.size_append] at z_; exact z_))
                                    replace H := Option.bind_eq_some_iff.mp H
                                    obtain ⟨t117, A240, H⟩ := H
                                    replace H : (if x6_2.length + t117.length < 8796093022208 then (laws_FnCamelWords.l0 kj8 l0 l1 ((x5_2 ++ (⟨#[32]⟩ : ByteArray)) ++ (rdOf ByteArray.empty l0 x21_2)) (x6_2 ++ t117) (l0.length : Int) (wrap64 (x21_2 + 1))) else (none)) = some r := H
                                    have A24 := Aside0.mk A240
                                    clear A240
                                    by_cases c25 : x6_2.length + t117.length < 8796093022208
                                    · rw [if_pos c25] at H
                                      have LMc25 := Aside0.mk c25
                                      clear c25
                                      obtain ⟨y120, hy120⟩ : ∃ y_ : List ByteArray, y_ = (x6_2 ++ t117) := ⟨_, rfl⟩
                                      replace H : (laws_FnCamelWords.l0 kj8 l0 l1 ((x5_2 ++ (⟨#[32]⟩ : ByteArray)) ++ (rdOf ByteArray.empty l0 x21_2)) y120 (l0.length : Int) (wrap64 (x21_2 + 1))) = some r := by first | (rw [hy120]; with_reducible exact H) | (have H2_ := (Option.bind_some _ _).symm.trans H; rw [hy120]; with_reducible exact H2_) | (have H2_ := (Option.bind_some _ _).symm.trans H; with_reducible exact H2_) | with_reducible exact H | (rw [hy120]; exact H) | exact H
                                      have Ny120 := Aside0.mk hy120
                                      clear hy120
                                      have H' := Aside0.mk H
                                      clear H
                                      have p114 : 0 ≤ (x21_2 : Int) := of_decide_eq_true (by first | (with_reducible assumption) | assumption)
                                      have q114 : x21_2 < (l1.length : Int) := of_decide_eq_true (by first | (with_reducible assumption) | assumption)
                                      obtain ⟨ad114, e114, hx114_0⟩ := Kd.at_bool HR1.out x21_2 p114 q114
                                      (try rw [← Nbq19.out] at hx114_0)
                                      cases e114
                                      replace hx114_0 := (HB.out.cell (World.block_lt_of_cell? w _ hx114_0)).trans hx114_0
                                      (try simp only [Go.IntWalk.toNatUp] at hx114_0)
                                      replace p114 := eq_true p114
                                      replace q114 := eq_true q114
                                      have p115 : 0 ≤ (x21_2 : Int) := of_decide_eq_true (by first | (with_reducible assumption) | assumption)
                                      have q115 : x21_2 < (l0.length : Int) := of_decide_eq_true (by first | (with_reducible assumption) | assumption)
                                      obtain ⟨ad115, e115, hx115_0⟩ := Kd.at_string HR0.out x21_2 p115 q115
                                      cases e115
                                      replace hx115_0 := (HB.out.cell (World.block_lt_of_cell? w _ hx115_0)).trans hx115_0
                                      (try simp only [Go.IntWalk.toNatUp] at hx115_0)
                                      replace p115 := eq_true p115
                                      replace q115 := eq_true q115
                                      have p116 : 0 ≤ (x21_2 : Int) := of_decide_eq_true (by first | (with_reducible assumption) | assumption)
                                      have q116 : x21_2 < (l0.length : Int) := of_decide_eq_true (by first | (with_reducible assumption) | assumption)
                                      obtain ⟨ad116, e116, hx116_0⟩ := Kd.at_string HR0.out x21_2 p116 q116
                                      obtain rfl : ad115 = ad116 := (by injection e116)
                                      replace hx116_0 := (HB.out.cell (World.block_lt_of_cell? w _ hx116_0)).trans hx116_0
                                      (try simp only [Go.IntWalk.toNatUp] at hx116_0)
                                      replace p116 := eq_true p116
                                      replace q116 := eq_true q116
                                      go_wp2_with (first | ((with_reducible refine gate_callee (f := 6) rfl ?_); refine goesL_ (some 72) rfl rfl Tryd.func6 (by kernel_rfl) rfl #[.string (rdOf ByteArray.empty l0 x21_2)] rfl (by (try simp only [List.map_toArray, List.map_cons, List.map_nil]); first | done | rfl | (simp only [List.length_drop, List.length_take]; rfl)) ?_; (with_reducible refine (impl_TwSplitCamelCase.calls (rdOf ByteArray.empty l0 x21_2) t117 _ ?side1 A24.out).mono ?_); (case side1 => exact LaidW.on hT (by repeat (first | (with_reducible first | exact HB.out | apply below_alloc | apply pw_below_drewN | apply below_drew1) | exact HB.out))); rintro e w26 ⟨v118, rfl, ho0, hb⟩; refine ⟨_, rfl, ?_⟩; have n0_ := Aside0.mk (Kd.R_elder' (by (with_reducible repeat (first | apply Kd.R_alloc | apply Kd.R_drewN | apply Kd.R_drew)); exact HO_6.out) (Kd.R_base ho0) hb); have n1_ := Aside0.mk (Kd.R_lower (Kd.R_new' ho0 (Kd.R_lt (by (with_reducible repeat (first | apply Kd.R_alloc | apply Kd.R_drewN | apply Kd.R_drew)); exact HO_6.out))) (below_size (by repeat (first | (with_reducible first | exact HB.out | apply below_alloc | apply pw_below_drewN | apply below_drew1) | exact HB.out)))); have n2_ := Aside0.mk (below_step (by repeat (first | (with_reducible first | exact HB.out | apply below_alloc | apply pw_below_drewN | apply below_drew1) | exact HB.out)) hb); clear HO_6; clear HB; have HO_6 := n0_; have HO119 := n1_; have HB := n2_; clear n0_ n1_ n2_; (try clear hb); (try clear hb2); (try clear hk); (try clear hi); (try clear ho0); obtain ⟨Ao28, co28, eo28⟩ := Kd.R_slice HO119.out; subst eo28) | ((with_reducible refine gate_builtin (b := .append) (xs := #[.tmp 67, .tmp 72]) rfl ?_); (try (refine gate_guard (by rfl) ?_; dsimp only)); at_builtin; refine Kd.R_append_rows Kd.string (w0 := w) w.heap.size rfl (.tmp 67) (.tmp 72) 22 9 (.string ⟨#[]⟩) 16 rfl Tryd.underlying22 info9 rfl (by decide) (by omega) u6 x6_2 t117 _ _ _ (fun k_ => some k_ ≠ (.slice Ao28 t117.length co28 : Value).ownBlock) (fun _ => False) rfl rfl ?aO ?aR (fun _ _ h => h) (fun _ h => h.elim) ?aF ?aB ?aS ?aL ?_; (case aR => repeat (first | exact (Kd.R_reads' HO119.out).2.2 | (with_reducible refine Kd.C_alloc ?_ _) | (with_reducible refine Kd.C_drewN ?_ _) | (with_reducible refine Kd.C_drew ?_))); (case aB => exact (by repeat (first | (with_reducible first | exact HB.out | apply below_alloc | apply pw_below_drewN | apply below_drew1) | exact HB.out))); (case aF => exact (fun k_ hk => Kd.fresh' (Kd.R_lt (by (with_reducible repeat (first | apply Kd.R_alloc | apply Kd.R_drewN | apply Kd.R_drew)); exact HO119.out)) k_ hk)); (case aO => exact (by (with_reducible repeat (first | apply Kd.R_alloc | apply Kd.R_drewN | apply Kd.R_drew)); exact Kd.R_mono HO_6.out (fun _ hk => hk.2))); (case aS => exact (below_size (by repeat (first | (with_reducible first | exact HB.out | apply below_alloc | apply pw_below_drewN | apply below_drew1) | exact HB.out)))); (case aL => have := LMc25.out; omega); intro v121 w27 ho hb hg hat; rw [← Ny120.out] at ho; have n0_ := Aside0.mk (Kd.R_after (ok := (fun _ => True)) (by (with_reducible repeat (first | apply Kd.R_alloc | apply Kd.R_drewN | apply Kd.R_drew)); exact HO119.out) hg hat); have n1_ := Aside0.mk (hb); have n2_ := Aside0.mk (ho); clear HO119; clear HB; clear HO_6; have HO119 := n0_; have HB := n1_; have HO122 := n2_; clear n0_ n1_ n2_; clear ho hb hg hat))
                                      go_roundg kj8
                                      case measure => have := HJ2.out; have := HK2.out; have := HJ8.out; omega
                                      case rel => exact ⟨((x5_2 ++ (⟨#[32]⟩ : ByteArray)) ++ (rdOf ByteArray.empty l0 x21_2)), (y120), (wrap64 (x21_2 + 1)), (by first | rfl | (simp; done) | (simp [*]; done)), (by first | rfl | (simp; done) | (simp [*]; done)), H', ⟨by have := HJ2.out; have := HK2.out; have := HJ8.out; omega⟩, ⟨by (with_reducible repeat (first | apply Kd.R_alloc | apply Kd.R_drewN | apply Kd.R_drew)); exact Kd.R_mono HO122.out (fun _ hk => trivial)⟩, ⟨by repeat (first | (with_reducible first | exact HB.out | apply below_alloc | apply pw_below_drewN | apply below_drew1) | exact HB.out)⟩⟩
                                    · rw [if_neg c25] at H
                                      exact absurd H (by simp)
                                  · rw [if_neg c23] at H
                                    exact absurd H (by simp)
                                · rw [if_neg c22] at H
                                  exact absurd H (by simp)
                              · rw [if_neg c21] at H
                                exact absurd H (by simp)
                            · replace c20 := Bool.eq_false_iff.mpr c20
                              subst c20
                              have H1 : (if x5_2.size + 1 ≤ 9223372036854775807 then (if x21_2 < (l0.length : Int) then (if (x5_2 ++ (⟨#[95]⟩ : ByteArray)).size + (rdOf ByteArray.empty l0 x21_2).size ≤ 9223372036854775807 then ((impl_TwSplitCamelCase.f (rdOf ByteArray.empty l0 x21_2)).bind fun t125 => (if x6_2.length + t125.length < 8796093022208 then (laws_FnCamelWords.l0 kj8 l0 l1 ((x5_2 ++ (⟨#[95]⟩ : ByteArray)) ++ (rdOf ByteArray.empty l0 x21_2)) (x6_2 ++ t125) (l0.length : Int) (wrap64 (x21_2 + 1))) else (none))) else (none)) else (none)) else (none)) = some r := by rw [if_neg (show ¬ (false = true) by decide)] at H; exact H
                              clear H
                              have H := H1
                              clear H1
                              by_cases c29 : x5_2.size + 1 ≤ 9223372036854775807
                              · rw [if_pos c29] at H
                                have c29b0 := eq_true c29
                                have c29b1 : decide (x5_2.size + 1 ≤ 9223372036854775807) = true := decide_eq_true c29
                                try have c29b2 : (9223372036854775807 < x5_2.size + 1) = False := eq_false (Nat.not_lt.2 c29)
                                by_cases c30 : x21_2 < (l0.length : Int)
                                · rw [if_pos c30] at H
                                  have c30b0 : decide (x21_2 < (l0.length : Int)) = true := decide_eq_true c30
                                  clear c30
                                  by_cases c31 : (x5_2 ++ (⟨#[95]⟩ : ByteArray)).size + (rdOf ByteArray.empty l0 x21_2).size ≤ 9223372036854775807
                                  · rw [if_pos c31] at H
                                    have c31b0 := eq_true c31
                                    have c31b1 : decide ((x5_2 ++ (⟨#[95]⟩ : ByteArray)).size + (rdOf ByteArray.empty l0 x21_2).size ≤ 9223372036854775807) = true := decide_eq_true c31
                                    try have c31b2 : (9223372036854775807 < (x5_2 ++ (⟨#[95]⟩ : ByteArray)).size + (rdOf ByteArray.empty l0 x21_2).size) = False := eq_false (Nat.not_lt.2 c31)
                                    try have c31b3 : (9223372036854775807 < x5_2.size + 1 + (rdOf ByteArray.empty l0 x21_2).size) = False := eq_false (Nat.not_lt.2 (by have z_ := c31; simp only [ByteArray.size_append] at z_; exact z_))
                                    replace H := Option.bind_eq_some_iff.mp H
                                    obtain ⟨t125, A320, H⟩ := H
                                    replace H : (if x6_2.length + t125.length < 8796093022208 then (laws_FnCamelWords.l0 kj8 l0 l1 ((x5_2 ++ (⟨#[95]⟩ : ByteArray)) ++ (rdOf ByteArray.empty l0 x21_2)) (x6_2 ++ t125) (l0.length : Int) (wrap64 (x21_2 + 1))) else (none)) = some r := H
                                    have A32 := Aside0.mk A320
                                    clear A320
                                    by_cases c33 : x6_2.length + t125.length < 8796093022208
                                    · rw [if_pos c33] at H
                                      have LMc33 := Aside0.mk c33
                                      clear c33
                                      obtain ⟨y128, hy128⟩ : ∃ y_ : List ByteArray, y_ = (x6_2 ++ t125) := ⟨_, rfl⟩
                                      replace H : (laws_FnCamelWords.l0 kj8 l0 l1 ((x5_2 ++ (⟨#[95]⟩ : ByteArray)) ++ (rdOf ByteArray.empty l0 x21_2)) y128 (l0.length : Int) (wrap64 (x21_2 + 1))) = some r := by first | (rw [hy128]; with_reducible exact H) | (have H2_ := (Option.bind_some _ _).symm.trans H; rw [hy128]; with_reducible exact H2_) | (have H2_ := (Option.bind_some _ _).symm.trans H; with_reducible exact H2_) | with_reducible exact H | (rw [hy128]; exact H) | exact H
                                      have Ny128 := Aside0.mk hy128
                                      clear hy128
                                      have H' := Aside0.mk H
                                      clear H
                                      have p114 : 0 ≤ (x21_2 : Int) := of_decide_eq_true (by first | (with_reducible assumption) | assumption)
                                      have q114 : x21_2 < (l1.length : Int) := of_decide_eq_true (by first | (with_reducible assumption) | assumption)
                                      obtain ⟨ad114, e114, hx114_0⟩ := Kd.at_bool HR1.out x21_2 p114 q114
                                      (try rw [← Nbq19.out] at hx114_0)
                                      cases e114
                                      replace hx114_0 := (HB.out.cell (World.block_lt_of_cell? w _ hx114_0)).trans hx114_0
                                      (try simp only [Go.IntWalk.toNatUp] at hx114_0)
                                      replace p114 := eq_true p114
                                      replace q114 := eq_true q114
                                      have p123 : 0 ≤ (x21_2 : Int) := of_decide_eq_true (by first | (with_reducible assumption) | assumption)
                                      have q123 : x21_2 < (l0.length : Int) := of_decide_eq_true (by first | (with_reducible assumption) | assumption)
                                      obtain ⟨ad123, e123, hx123_0⟩ := Kd.at_string HR0.out x21_2 p123 q123
                                      cases e123
                                      replace hx123_0 := (HB.out.cell (World.block_lt_of_cell? w _ hx123_0)).trans hx123_0
                                      (try simp only [Go.IntWalk.toNatUp] at hx123_0)
                                      replace p123 := eq_true p123
                                      replace q123 := eq_true q123
                                      have p124 : 0 ≤ (x21_2 : Int) := of_decide_eq_true (by first | (with_reducible assumption) | assumption)
                                      have q124 : x21_2 < (l0.length : Int) := of_decide_eq_true (by first | (with_reducible assumption) | assumption)
                                      obtain ⟨ad124, e124, hx124_0⟩ := Kd.at_string HR0.out x21_2 p124 q124
                                      obtain rfl : ad123 = ad124 := (by injection e124)
                                      replace hx124_0 := (HB.out.cell (World.block_lt_of_cell? w _ hx124_0)).trans hx124_0
                                      (try simp only [Go.IntWalk.toNatUp] at hx124_0)
                                      replace p124 := eq_true p124
                                      replace q124 := eq_true q124
                                      go_wp2_with (first | ((with_reducible refine gate_callee (f := 6) rfl ?_); refine goesL_ (some 72) rfl rfl Tryd.func6 (by kernel_rfl) rfl #[.string (rdOf ByteArray.empty l0 x21_2)] rfl (by (try simp only [List.map_toArray, List.map_cons, List.map_nil]); first | done | rfl | (simp only [List.length_drop, List.length_take]; rfl)) ?_; (with_reducible refine (impl_TwSplitCamelCase.calls (rdOf ByteArray.empty l0 x21_2) t125 _ ?side1 A32.out).mono ?_); (case side1 => exact LaidW.on hT (by repeat (first | (with_reducible first | exact HB.out | apply below_alloc | apply pw_below_drewN | apply below_drew1) | exact HB.out))); rintro e w34 ⟨v126, rfl, ho0, hb⟩; refine ⟨_, rfl, ?_⟩; have n0_ := Aside0.mk (Kd.R_elder' (by (with_reducible repeat (first | apply Kd.R_alloc | apply Kd.R_drewN | apply Kd.R_drew)); exact HO_6.out) (Kd.R_base ho0) hb); have n1_ := Aside0.mk (Kd.R_lower (Kd.R_new' ho0 (Kd.R_lt (by (with_reducible repeat (first | apply Kd.R_alloc | apply Kd.R_drewN | apply Kd.R_drew)); exact HO_6.out))) (below_size (by repeat (first | (with_reducible first | exact HB.out | apply below_alloc | apply pw_below_drewN | apply below_drew1) | exact HB.out)))); have n2_ := Aside0.mk (below_step (by repeat (first | (with_reducible first | exact HB.out | apply below_alloc | apply pw_below_drewN | apply below_drew1) | exact HB.out)) hb); clear HO_6; clear HB; have HO_6 := n0_; have HO127 := n1_; have HB := n2_; clear n0_ n1_ n2_; (try clear hb); (try clear hb2); (try clear hk); (try clear hi); (try clear ho0); obtain ⟨Ao36, co36, eo36⟩ := Kd.R_slice HO127.out; subst eo36) | ((with_reducible refine gate_builtin (b := .append) (xs := #[.tmp 67, .tmp 72]) rfl ?_); (try (refine gate_guard (by rfl) ?_; dsimp only)); at_builtin; refine Kd.R_append_rows Kd.string (w0 := w) w.heap.size rfl (.tmp 67) (.tmp 72) 22 9 (.string ⟨#[]⟩) 16 rfl Tryd.underlying22 info9 rfl (by decide) (by omega) u6 x6_2 t125 _ _ _ (fun k_ => some k_ ≠ (.slice Ao36 t125.length co36 : Value).ownBlock) (fun _ => False) rfl rfl ?aO ?aR (fun _ _ h => h) (fun _ h => h.elim) ?aF ?aB ?aS ?aL ?_; (case aR => repeat (first | exact (Kd.R_reads' HO127.out).2.2 | (with_reducible refine Kd.C_alloc ?_ _) | (with_reducible refine Kd.C_drewN ?_ _) | (with_reducible refine Kd.C_drew ?_))); (case aB => exact (by repeat (first | (with_reducible first | exact HB.out | apply below_alloc | apply pw_below_drewN | apply below_drew1) | exact HB.out))); (case aF => exact (fun k_ hk => Kd.fresh' (Kd.R_lt (by (with_reducible repeat (first | apply Kd.R_alloc | apply Kd.R_drewN | apply Kd.R_drew)); exact HO127.out)) k_ hk)); (case aO => exact (by (with_reducible repeat (first | apply Kd.R_alloc | apply Kd.R_drewN | apply Kd.R_drew)); exact Kd.R_mono HO_6.out (fun _ hk => hk.2))); (case aS => exact (below_size (by repeat (first | (with_reducible first | exact HB.out | apply below_alloc | apply pw_below_drewN | apply below_drew1) | exact HB.out)))); (case aL => have := LMc33.out; omega); intro v129 w35 ho hb hg hat; rw [← Ny128.out] at ho; have n0_ := Aside0.mk (Kd.R_after (ok := (fun _ => True)) (by (with_reducible repeat (first | apply Kd.R_alloc | apply Kd.R_drewN | apply Kd.R_drew)); exact HO127.out) hg hat); have n1_ := Aside0.mk (hb); have n2_ := Aside0.mk (ho); clear HO127; clear HB; clear HO_6; have HO127 := n0_; have HB := n1_; have HO130 := n2_; clear n0_ n1_ n2_; clear ho hb hg hat))
                                      go_roundg kj8
                                      case measure => have := HJ2.out; have := HK2.out; have := HJ8.out; omega
                                      case rel => exact ⟨((x5_2 ++ (⟨#[95]⟩ : ByteArray)) ++ (rdOf ByteArray.empty l0 x21_2)), (y128), (wrap64 (x21_2 + 1)), (by first | rfl | (simp; done) | (simp [*]; done)), (by first | rfl | (simp; done) | (simp [*]; done)), H', ⟨by have := HJ2.out; have := HK2.out; have := HJ8.out; omega⟩, ⟨by (with_reducible repeat (first | apply Kd.R_alloc | apply Kd.R_drewN | apply Kd.R_drew)); exact Kd.R_mono HO130.out (fun _ hk => trivial)⟩, ⟨by repeat (first | (with_reducible first | exact HB.out | apply below_alloc | apply pw_below_drewN | apply below_drew1) | exact HB.out)⟩⟩
                                    · rw [if_neg c33] at H
                                      exact absurd H (by simp)
                                  · rw [if_neg c31] at H
                                    exact absurd H (by simp)
                                · rw [if_neg c30] at H
                                  exact absurd H (by simp)
                              · rw [if_neg c29] at H
                                exact absurd H (by simp)
                          · rw [if_neg c18] at H
                            exact absurd H (by simp)
                        · rw [if_neg c17] at H
                          have c17b0 : decide (x21_2 < (l1.length : Int)) = false := decide_eq_false c17
                          clear c17
                          by_cases c37 : x5_2.size + 1 ≤ 9223372036854775807
                          · rw [if_pos c37] at H
                            have c37b0 := eq_true c37
                            have c37b1 : decide (x5_2.size + 1 ≤ 9223372036854775807) = true := decide_eq_true c37
                            try have c37b2 : (9223372036854775807 < x5_2.size + 1) = False := eq_false (Nat.not_lt.2 c37)
                            by_cases c38 : 0 ≤ x21_2
                            · rw [if_pos c38] at H
                              have c38b0 : decide (0 ≤ x21_2) = true := decide_eq_true c38
                              clear c38
                              by_cases c39 : x21_2 < (l0.length : Int)
                              · rw [if_pos c39] at H
                                have c39b0 : decide (x21_2 < (l0.length : Int)) = true := decide_eq_true c39
                                clear c39
                                by_cases c40 : (x5_2 ++ (⟨#[95]⟩ : ByteArray)).size + (rdOf ByteArray.empty l0 x21_2).size ≤ 9223372036854775807
                                · rw [if_pos c40] at H
                                  have c40b0 := eq_true c40
                                  have c40b1 : decide ((x5_2 ++ (⟨#[95]⟩ : ByteArray)).size + (rdOf ByteArray.empty l0 x21_2).size ≤ 9223372036854775807) = true := decide_eq_true c40
                                  try have c40b2 : (9223372036854775807 < (x5_2 ++ (⟨#[95]⟩ : ByteArray)).size + (rdOf ByteArray.empty l0 x21_2).size) = False := eq_false (Nat.not_lt.2 c40)
                                  try have c40b3 : (9223372036854775807 < x5_2.size + 1 + (rdOf ByteArray.empty l0 x21_2).size) = False := eq_false (Nat.not_lt.2 (by have z_ := c40; simp only [ByteArray.size_append] at z_; exact z_))
                                  replace H := Option.bind_eq_some_iff.mp H
                                  obtain ⟨t133, A410, H⟩ := H
                                  replace H : (if x6_2.length + t133.length < 8796093022208 then (laws_FnCamelWords.l0 kj8 l0 l1 ((x5_2 ++ (⟨#[95]⟩ : ByteArray)) ++ (rdOf ByteArray.empty l0 x21_2)) (x6_2 ++ t133) (l0.length : Int) (wrap64 (x21_2 + 1))) else (none)) = some r := H
                                  have A41 := Aside0.mk A410
                                  clear A410
                                  by_cases c42 : x6_2.length + t133.length < 8796093022208
                                  · rw [if_pos c42] at H
                                    have LMc42 := Aside0.mk c42
                                    clear c42
                                    obtain ⟨y136, hy136⟩ : ∃ y_ : List ByteArray, y_ = (x6_2 ++ t133) := ⟨_, rfl⟩
                                    replace H : (laws_FnCamelWords.l0 kj8 l0 l1 ((x5_2 ++ (⟨#[95]⟩ : ByteArray)) ++ (rdOf ByteArray.empty l0 x21_2)) y136 (l0.length : Int) (wrap64 (x21_2 + 1))) = some r := by first | (rw [hy136]; with_reducible exact H) | (have H2_ := (Option.bind_some _ _).symm.trans H; rw [hy136]; with_reducible exact H2_) | (have H2_ := (Option.bind_some _ _).symm.trans H; with_reducible exact H2_) | with_reducible exact H | (rw [hy136]; exact H) | exact H
                                    have Ny136 := Aside0.mk hy136
                                    clear hy136
                                    have H' := Aside0.mk H
                                    clear H
                                    have p131 : 0 ≤ (x21_2 : Int) := of_decide_eq_true (by first | (with_reducible assumption) | assumption)
                                    have q131 : x21_2 < (l0.length : Int) := of_decide_eq_true (by first | (with_reducible assumption) | assumption)
                                    obtain ⟨ad131, e131, hx131_0⟩ := Kd.at_string HR0.out x21_2 p131 q131
                                    cases e131
                                    replace hx131_0 := (HB.out.cell (World.block_lt_of_cell? w _ hx131_0)).trans hx131_0
                                    (try simp only [Go.IntWalk.toNatUp] at hx131_0)
                                    replace p131 := eq_true p131
                                    replace q131 := eq_true q131
                                    have p132 : 0 ≤ (x21_2 : Int) := of_decide_eq_true (by first | (with_reducible assumption) | assumption)
                                    have q132 : x21_2 < (l0.length : Int) := of_decide_eq_true (by first | (with_reducible assumption) | assumption)
                                    obtain ⟨ad132, e132, hx132_0⟩ := Kd.at_string HR0.out x21_2 p132 q132
                                    obtain rfl : ad131 = ad132 := (by injection e132)
                                    replace hx132_0 := (HB.out.cell (World.block_lt_of_cell? w _ hx132_0)).trans hx132_0
                                    (try simp only [Go.IntWalk.toNatUp] at hx132_0)
                                    replace p132 := eq_true p132
                                    replace q132 := eq_true q132
                                    go_wp2_with (first | ((with_reducible refine gate_callee (f := 6) rfl ?_); refine goesL_ (some 72) rfl rfl Tryd.func6 (by kernel_rfl) rfl #[.string (rdOf ByteArray.empty l0 x21_2)] rfl (by (try simp only [List.map_toArray, List.map_cons, List.map_nil]); first | done | rfl | (simp only [List.length_drop, List.length_take]; rfl)) ?_; (with_reducible refine (impl_TwSplitCamelCase.calls (rdOf ByteArray.empty l0 x21_2) t133 _ ?side1 A41.out).mono ?_); (case side1 => exact LaidW.on hT (by repeat (first | (with_reducible first | exact HB.out | apply below_alloc | apply pw_below_drewN | apply below_drew1) | exact HB.out))); rintro e w43 ⟨v134, rfl, ho0, hb⟩; refine ⟨_, rfl, ?_⟩; have n0_ := Aside0.mk (Kd.R_elder' (by (with_reducible repeat (first | apply Kd.R_alloc | apply Kd.R_drewN | apply Kd.R_drew)); exact HO_6.out) (Kd.R_base ho0) hb); have n1_ := Aside0.mk (Kd.R_lower (Kd.R_new' ho0 (Kd.R_lt (by (with_reducible repeat (first | apply Kd.R_alloc | apply Kd.R_drewN | apply Kd.R_drew)); exact HO_6.out))) (below_size (by repeat (first | (with_reducible first | exact HB.out | apply below_alloc | apply pw_below_drewN | apply below_drew1) | exact HB.out)))); have n2_ := Aside0.mk (below_step (by repeat (first | (with_reducible first | exact HB.out | apply below_alloc | apply pw_below_drewN | apply below_drew1) | exact HB.out)) hb); clear HO_6; clear HB; have HO_6 := n0_; have HO135 := n1_; have HB := n2_; clear n0_ n1_ n2_; (try clear hb); (try clear hb2); (try clear hk); (try clear hi); (try clear ho0); obtain ⟨Ao45, co45, eo45⟩ := Kd.R_slice HO135.out; subst eo45) | ((with_reducible refine gate_builtin (b := .append) (xs := #[.tmp 67, .tmp 72]) rfl ?_); (try (refine gate_guard (by rfl) ?_; dsimp only)); at_builtin; refine Kd.R_append_rows Kd.string (w0 := w) w.heap.size rfl (.tmp 67) (.tmp 72) 22 9 (.string ⟨#[]⟩) 16 rfl Tryd.underlying22 info9 rfl (by decide) (by omega) u6 x6_2 t133 _ _ _ (fun k_ => some k_ ≠ (.slice Ao45 t133.length co45 : Value).ownBlock) (fun _ => False) rfl rfl ?aO ?aR (fun _ _ h => h) (fun _ h => h.elim) ?aF ?aB ?aS ?aL ?_; (case aR => repeat (first | exact (Kd.R_reads' HO135.out).2.2 | (with_reducible refine Kd.C_alloc ?_ _) | (with_reducible refine Kd.C_drewN ?_ _) | (with_reducible refine Kd.C_drew ?_))); (case aB => exact (by repeat (first | (with_reducible first | exact HB.out | apply below_alloc | apply pw_below_drewN | apply below_drew1) | exact HB.out))); (case aF => exact (fun k_ hk => Kd.fresh' (Kd.R_lt (by (with_reducible repeat (first | apply Kd.R_alloc | apply Kd.R_drewN | apply Kd.R_drew)); exact HO135.out)) k_ hk)); (case aO => exact (by (with_reducible repeat (first | apply Kd.R_alloc | apply Kd.R_drewN | apply Kd.R_drew)); exact Kd.R_mono HO_6.out (fun _ hk => hk.2))); (case aS => exact (below_size (by repeat (first | (with_reducible first | exact HB.out | apply below_alloc | apply pw_below_drewN | apply below_drew1) | exact HB.out)))); (case aL => have := LMc42.out; omega); intro v137 w44 ho hb hg hat; rw [← Ny136.out] at ho; have n0_ := Aside0.mk (Kd.R_after (ok := (fun _ => True)) (by (with_reducible repeat (first | apply Kd.R_alloc | apply Kd.R_drewN | apply Kd.R_drew)); exact HO135.out) hg hat); have n1_ := Aside0.mk (hb); have n2_ := Aside0.mk (ho); clear HO135; clear HB; clear HO_6; have HO135 := n0_; have HB := n1_; have HO138 := n2_; clear n0_ n1_ n2_; clear ho hb hg hat))
                                    go_roundg kj8
                                    case measure => have := HJ2.out; have := HK2.out; have := HJ8.out; omega
                                    case rel => exact ⟨((x5_2 ++ (⟨#[95]⟩ : ByteArray)) ++ (rdOf ByteArray.empty l0 x21_2)), (y136), (wrap64 (x21_2 + 1)), (by first | rfl | (simp; done) | (simp [*]; done)), (by first | rfl | (simp; done) | (simp [*]; done)), H', ⟨by have := HJ2.out; have := HK2.out; have := HJ8.out; omega⟩, ⟨by (with_reducible repeat (first | apply Kd.R_alloc | apply Kd.R_drewN | apply Kd.R_drew)); exact Kd.R_mono HO138.out (fun _ hk => trivial)⟩, ⟨by repeat (first | (with_reducible first | exact HB.out | apply below_alloc | apply pw_below_drewN | apply below_drew1) | exact HB.out)⟩⟩
                                  · rw [if_neg c42] at H
                                    exact absurd H (by simp)
                                · rw [if_neg c40] at H
                                  exact absurd H (by simp)
                              · rw [if_neg c39] at H
                                exact absurd H (by simp)
                            · rw [if_neg c38] at H
                              exact absurd H (by simp)
                          · rw [if_neg c37] at H
                            exact absurd H (by simp)
                      · rw [if_neg c16] at H
                        have c16b0 : decide (0 < x21_2) = false := decide_eq_false c16
                        clear c16
                        by_cases c46 : 0 ≤ x21_2
                        · rw [if_pos c46] at H
                          have c46b0 : decide (0 ≤ x21_2) = true := decide_eq_true c46
                          clear c46
                          by_cases c47 : x21_2 < (l0.length : Int)
                          · rw [if_pos c47] at H
                            have c47b0 : decide (x21_2 < (l0.length : Int)) = true := decide_eq_true c47
                            clear c47
                            by_cases c48 : x5_2.size + (rdOf ByteArray.empty l0 x21_2).size ≤ 9223372036854775807
                            · rw [if_pos c48] at H
                              have c48b0 := eq_true c48
                              have c48b1 : decide (x5_2.size + (rdOf ByteArray.empty l0 x21_2).size ≤ 9223372036854775807) = true := decide_eq_true c48
                              try have c48b2 : (9223372036854775807 < x5_2.size + (rdOf ByteArray.empty l0 x21_2).size) = False := eq_false (Nat.not_lt.2 c48)
                              replace H := Option.bind_eq_some_iff.mp H
                              obtain ⟨t141, A490, H⟩ := H
                              replace H : (if x6_2.length + t141.length < 8796093022208 then (laws_FnCamelWords.l0 kj8 l0 l1 (x5_2 ++ (rdOf ByteArray.empty l0 x21_2)) (x6_2 ++ t141) (l0.length : Int) (wrap64 (x21_2 + 1))) else (none)) = some r := H
                              have A49 := Aside0.mk A490
                              clear A490
                              by_cases c50 : x6_2.length + t141.length < 8796093022208
                              · rw [if_pos c50] at H
                                have LMc50 := Aside0.mk c50
                                clear c50
                                obtain ⟨y144, hy144⟩ : ∃ y_ : List ByteArray, y_ = (x6_2 ++ t141) := ⟨_, rfl⟩
                                replace H : (laws_FnCamelWords.l0 kj8 l0 l1 (x5_2 ++ (rdOf ByteArray.empty l0 x21_2)) y144 (l0.length : Int) (wrap64 (x21_2 + 1))) = some r := by first | (rw [hy144]; with_reducible exact H) | (have H2_ := (Option.bind_some _ _).symm.trans H; rw [hy144]; with_reducible exact H2_) | (have H2_ := (Option.bind_some _ _).symm.trans H; with_reducible exact H2_) | with_reducible exact H | (rw [hy144]; exact H) | exact H
                                have Ny144 := Aside0.mk hy144
                                clear hy144
                                have H' := Aside0.mk H
                                clear H
                                have p139 : 0 ≤ (x21_2 : Int) := of_decide_eq_true (by first | (with_reducible assumption) | assumption)
                                have q139 : x21_2 < (l0.length : Int) := of_decide_eq_true (by first | (with_reducible assumption) | assumption)
                                obtain ⟨ad139, e139, hx139_0⟩ := Kd.at_string HR0.out x21_2 p139 q139
                                cases e139
                                replace hx139_0 := (HB.out.cell (World.block_lt_of_cell? w _ hx139_0)).trans hx139_0
                                (try simp only [Go.IntWalk.toNatUp] at hx139_0)
                                replace p139 := eq_true p139
                                replace q139 := eq_true q139
                                have p140 : 0 ≤ (x21_2 : Int) := of_decide_eq_true (by first | (with_reducible assumption) | assumption)
                                have q140 : x21_2 < (l0.length : Int) := of_decide_eq_true (by first | (with_reducible assumption) | assumption)
                                obtain ⟨ad140, e140, hx140_0⟩ := Kd.at_string HR0.out x21_2 p140 q140
                                obtain rfl : ad139 = ad140 := (by injection e140)
                                replace hx140_0 := (HB.out.cell (World.block_lt_of_cell? w _ hx140_0)).trans hx140_0
                                (try simp only [Go.IntWalk.toNatUp] at hx140_0)
                                replace p140 := eq_true p140
                                replace q140 := eq_true q140
                                go_wp2_with (first | ((with_reducible refine gate_callee (f := 6) rfl ?_); refine goesL_ (some 72) rfl rfl Tryd.func6 (by kernel_rfl) rfl #[.string (rdOf ByteArray.empty l0 x21_2)] rfl (by (try simp only [List.map_toArray, List.map_cons, List.map_nil]); first | done | rfl | (simp only [List.length_drop, List.length_take]; rfl)) ?_; (with_reducible refine (impl_TwSplitCamelCase.calls (rdOf ByteArray.empty l0 x21_2) t141 _ ?side1 A49.out).mono ?_); (case side1 => exact LaidW.on hT (by repeat (first | (with_reducible first | exact HB.out | apply below_alloc | apply pw_below_drewN | apply below_drew1) | exact HB.out))); rintro e w51 ⟨v142, rfl, ho0, hb⟩; refine ⟨_, rfl, ?_⟩; have n0_ := Aside0.mk (Kd.R_elder' (by (with_reducible repeat (first | apply Kd.R_alloc | apply Kd.R_drewN | apply Kd.R_drew)); exact HO_6.out) (Kd.R_base ho0) hb); have n1_ := Aside0.mk (Kd.R_lower (Kd.R_new' ho0 (Kd.R_lt (by (with_reducible repeat (first | apply Kd.R_alloc | apply Kd.R_drewN | apply Kd.R_drew)); exact HO_6.out))) (below_size (by repeat (first | (with_reducible first | exact HB.out | apply below_alloc | apply pw_below_drewN | apply below_drew1) | exact HB.out)))); have n2_ := Aside0.mk (below_step (by repeat (first | (with_reducible first | exact HB.out | apply below_alloc | apply pw_below_drewN | apply below_drew1) | exact HB.out)) hb); clear HO_6; clear HB; have HO_6 := n0_; have HO143 := n1_; have HB := n2_; clear n0_ n1_ n2_; (try clear hb); (try clear hb2); (try clear hk); (try clear hi); (try clear ho0); obtain ⟨Ao53, co53, eo53⟩ := Kd.R_slice HO143.out; subst eo53) | ((with_reducible refine gate_builtin (b := .append) (xs := #[.tmp 67, .tmp 72]) rfl ?_); (try (refine gate_guard (by rfl) ?_; dsimp only)); at_builtin; refine Kd.R_append_rows Kd.string (w0 := w) w.heap.size rfl (.tmp 67) (.tmp 72) 22 9 (.string ⟨#[]⟩) 16 rfl Tryd.underlying22 info9 rfl (by decide) (by omega) u6 x6_2 t141 _ _ _ (fun k_ => some k_ ≠ (.slice Ao53 t141.length co53 : Value).ownBlock) (fun _ => False) rfl rfl ?aO ?aR (fun _ _ h => h) (fun _ h => h.elim) ?aF ?aB ?aS ?aL ?_; (case aR => repeat (first | exact (Kd.R_reads' HO143.out).2.2 | (with_reducible refine Kd.C_alloc ?_ _) | (with_reducible refine Kd.C_drewN ?_ _) | (with_reducible refine Kd.C_drew ?_))); (case aB => exact (by repeat (first | (with_reducible first | exact HB.out | apply below_alloc | apply pw_below_drewN | apply below_drew1) | exact HB.out))); (case aF => exact (fun k_ hk => Kd.fresh' (Kd.R_lt (by (with_reducible repeat (first | apply Kd.R_alloc | apply Kd.R_drewN | apply Kd.R_drew)); exact HO143.out)) k_ hk)); (case aO => exact (by (with_reducible repeat (first | apply Kd.R_alloc | apply Kd.R_drewN | apply Kd.R_drew)); exact Kd.R_mono HO_6.out (fun _ hk => hk.2))); (case aS => exact (below_size (by repeat (first | (with_reducible first | exact HB.out | apply below_alloc | apply pw_below_drewN | apply below_drew1) | exact HB.out)))); (case aL => have := LMc50.out; omega); intro v145 w52 ho hb hg hat; rw [← Ny144.out] at ho; have n0_ := Aside0.mk (Kd.R_after (ok := (fun _ => True)) (by (with_reducible repeat (first | apply Kd.R_alloc | apply Kd.R_drewN | apply Kd.R_drew)); exact HO143.out) hg hat); have n1_ := Aside0.mk (hb); have n2_ := Aside0.mk (ho); clear HO143; clear HB; clear HO_6; have HO143 := n0_; have HB := n1_; have HO146 := n2_; clear n0_ n1_ n2_; clear ho hb hg hat))
                                go_roundg kj8
                                case measure => have := HJ2.out; have := HK2.out; have := HJ8.out; omega
                                case rel => exact ⟨(x5_2 ++ (rdOf ByteArray.empty l0 x21_2)), (y144), (wrap64 (x21_2 + 1)), (by first | rfl | (simp; done) | (simp [*]; done)), (by first | rfl | (simp; done) | (simp [*]; done)), H', ⟨by have := HJ2.out; have := HK2.out; have := HJ8.out; omega⟩, ⟨by (with_reducible repeat (first | apply Kd.R_alloc | apply Kd.R_drewN | apply Kd.R_drew)); exact Kd.R_mono HO146.out (fun _ hk => trivial)⟩, ⟨by repeat (first | (with_reducible first | exact HB.out | apply below_alloc | apply pw_below_drewN | apply below_drew1) | exact HB.out)⟩⟩
                              · rw [if_neg c50] at H
                                exact absurd H (by simp)
                            · rw [if_neg c48] at H
                              exact absurd H (by simp)
                          · rw [if_neg c47] at H
                            exact absurd H (by simp)
                        · rw [if_neg c46] at H
                          exact absurd H (by simp)
              · rw [if_neg c8] at H
                have c8b0 : decide (x21_2 < (l0.length : Int)) = false := decide_eq_false c8
                clear c8
                by_cases c54 : (x6_2.length : Int) ≥ (l0.length : Int)
                · rw [if_pos c54] at H
                  have c54b0 : decide ((l0.length : Int) ≤ (x6_2.length : Int)) = true := decide_eq_true c54
                  have c54b1 : decide (l0.length ≤ x6_2.length) = true := decide_eq_true (Int.ofNat_le.mp c54)
                  clear c54
                  replace H := Option.bind_eq_some_iff.mp H
                  obtain ⟨t106, A550, H⟩ := H
                  replace H : ((spec_TwTexts.f k2 t106 x6_2).bind fun t109 => (some t109)) = some r := H
                  have A55 := Aside0.mk A550
                  clear A550
                  replace H := Option.bind_eq_some_iff.mp H
                  obtain ⟨t109, A560, H⟩ := H
                  replace H : (some t109) = some r := H
                  have A56 := Aside0.mk A560
                  clear A560
                  obtain rfl := Option.some.inj H
                  obtain ⟨Ao57, co57, eo57⟩ := Kd.R_slice HO_6.out
                  subst eo57
                  go_wp2_with (first | (go_at_call 6; (with_reducible refine (impl_TwSplitCamelCase.calls x5_2 t106 _ ?side1 A55.out).mono ?_); (case side1 => exact LaidW.on hT (by repeat (first | (with_reducible first | exact HB.out | apply below_alloc | apply pw_below_drewN | apply below_drew1) | exact HB.out))); rintro e w58 ⟨v107, rfl, ho0, hb⟩; have n0_ := Aside0.mk (Kd.R_elder' (by (with_reducible repeat (first | apply Kd.R_alloc | apply Kd.R_drewN | apply Kd.R_drew)); exact HO_6.out) (Kd.R_base ho0) hb); have n1_ := Aside0.mk (Kd.R_lower (Kd.R_new' ho0 (Kd.R_lt (by (with_reducible repeat (first | apply Kd.R_alloc | apply Kd.R_drewN | apply Kd.R_drew)); exact HO_6.out))) (below_size (by repeat (first | (with_reducible first | exact HB.out | apply below_alloc | apply pw_below_drewN | apply below_drew1) | exact HB.out)))); have n2_ := Aside0.mk (below_step (by repeat (first | (with_reducible first | exact HB.out | apply below_alloc | apply pw_below_drewN | apply below_drew1) | exact HB.out)) hb); clear HO_6; clear HB; have HO_6 := n0_; have HO108 := n1_; have HB := n2_; clear n0_ n1_ n2_; (try clear hb); (try clear hb2); (try clear hk); (try clear hi); (try clear ho0); obtain ⟨Ao59, co59, eo59⟩ := Kd.R_slice HO108.out; subst eo59) | (go_at_call 7; (with_reducible refine (spec_TwTexts.calls k2 _ _ t106 _ _ x6_2 t109 _ ?side1 ?side2 ?side3 ?side4 A56.out).mono ?_); (case side1 => repeat (first | exact (Kd.R_reads' HO108.out).2.2 | (with_reducible refine Kd.C_alloc ?_ _) | (with_reducible refine Kd.C_drewN ?_ _) | (with_reducible refine Kd.C_drew ?_))); (case side2 => exact (Kd.R_reads' HO108.out).2.1); (case side3 => repeat (first | exact (Kd.R_reads' HO_6.out).2.2 | (with_reducible refine Kd.C_alloc ?_ _) | (with_reducible refine Kd.C_drewN ?_ _) | (with_reducible refine Kd.C_drew ?_))); (case side4 => exact (Kd.R_reads' HO_6.out).2.1); rintro e w' ⟨rfl, ⟨nd, rfl⟩⟩))
                  go_ret
                  exact ⟨by first | rfl | (simp [errW_none, errW_some] <;> rfl) | (simp [errW_none, errW_some, It.bne_nil] <;> rfl) | (simp [errW_none, errW_some, It.bne_nil]; done) | (simp [*, errW_none, errW_some] <;> rfl), by repeat (first | (with_reducible first | exact HB.out | apply below_alloc | apply pw_below_drewN | apply below_drew1) | exact HB.out)⟩
                · rw [if_neg c54] at H
                  have c54b0 : decide ((l0.length : Int) ≤ (x6_2.length : Int)) = false := decide_eq_false c54
                  have c54b1 : decide (l0.length ≤ x6_2.length) = false := decide_eq_false (fun h => c54 (Int.ofNat_le.mpr h))
                  clear c54
                  obtain rfl := Option.some.inj H
                  obtain ⟨Ao60, co60, eo60⟩ := Kd.R_slice HO_6.out
                  subst eo60
                  go_wp2
                  go_ret
                  exact ⟨by first | rfl | (simp [errW_none, errW_some] <;> rfl) | (simp [errW_none, errW_some, It.bne_nil] <;> rfl) | (simp [errW_none, errW_some, It.bne_nil]; done) | (simp [*, errW_none, errW_some] <;> rfl), by repeat (first | (with_reducible first | exact HB.out | apply below_alloc | apply pw_below_drewN | apply below_drew1) | exact HB.out)⟩

def laws_FnCamelWords.Pure : Prop := ∀ (l0 : List ByteArray) (l1 : List Bool), (l0.length * 16 ≤ 140737488351232 ∧ l0.length ≤ maxLen ∧ ∀ yl0 ∈ l0, yl0.size ≤ 140737488351232) → (l1.length * 1 ≤ 140737488351232 ∧ l1.length ≤ maxLen ∧ ∀ yl1 ∈ l1, True) → ∃ k, laws_FnCamelWords.f k l0 l1 = some true

end Go.Proofs.YtienokiifhcelaaDoor.PFnCamelWords
