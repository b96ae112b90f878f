-- Written by hprint.py, a program of this session
import Derived.Test.YthepbgakfkiliaaRDoorPFnTextColorPrintx0
import Derived.Test.YthepbgakfkiliaaRDoorPFnTextColorPrintx1
import Derived.Test.YthepbgakfkiliaaRDoorPFnTextColorPrintx2
namespace Go.Proofs.YthepbgakfkiliaaRDoor.PFnTextColorPrint
open Go.RowKit Go.Proofs.YthepbgakfkiliaaRDoor.Hand Go.Proofs.YthepbgakfkiliaaRDoorW.PrintWords Go.Proofs.YthepbgakfkiliaaRDoorW.PrintLast Go.Proofs.YthepbgakfkiliaaRDoorW.PrintMore
attribute [local go_sem] max2_int min2_int max_two min_two max_three min_three max_four min_four   -- for this text's walks alone
set_option linter.unusedVariables false
set_option linter.unusedSimpArgs false

/-! ### laws_txTexts: function 17 -/
def laws_txTexts.l0 : Nat → List ByteArray → ByteArray → List ByteArray → Int → Int → Option (ByteArray × Bool)
  | 0, _, _, _, _, _ => none
  | k + 1, x0, x4, x7, x8, x9 => if x9 < x8 then (if 0 ≤ x9 then (if x9 < (x7.length : Int) then (if ((rdOf ByteArray.empty x7 x9).size : Int) > 300 then (some ((⟨#[]⟩ : ByteArray), false)) else ((spec_TxSimple.f k (rdOf ByteArray.empty x7 x9) false).bind fun t112 => (if t112 = true then (if x4.size + (rdOf ByteArray.empty x7 x9).size ≤ 9223372036854775807 then (laws_txTexts.l0 k x0 (x4 ++ (rdOf ByteArray.empty x7 x9)) x7 x8 (wrap64 (x9 + 1))) else (none)) else (some ((⟨#[]⟩ : ByteArray), false))))) else (none)) else (none)) else (if x4.toList = ([] : List UInt8) then (some (x4, false)) else (some (x4, decide ((x0.length : Int) ≤ 20))))
def laws_txTexts.f (k : Nat) (l0 : List ByteArray) : Option (ByteArray × Bool) := laws_txTexts.l0 k l0 (⟨#[]⟩ : ByteArray) l0 (l0.length : Int) 0
theorem laws_txTexts.mono_l : ∀ k, (∀ y0 y1 y2 y3 y4, LeO (laws_txTexts.l0 k y0 y1 y2 y3 y4) (laws_txTexts.l0 (k + 1) y0 y1 y2 y3 y4))
  | 0 => fun _ _ _ _ _ r h => by simp [laws_txTexts.l0] at h
  | k + 1 => by
    have ih0 := laws_txTexts.mono_l k
    · intro y0 y1 y2 y3 y4
      unfold laws_txTexts.l0
      repeat' first
      | (with_reducible exact ih0 _ _ _ _ _)
      | (with_reducible exact spec_TxSimple.mono _ _ _)
      | (with_reducible exact LeO.refl _)
      | (with_reducible exact LeO.none _)
      | (with_reducible refine LeO.ite ?_ ?_)
      | (with_reducible refine LeO.bind ?_ (fun _ => ?_))
      | exact ih0 _ _ _ _ _
      | exact spec_TxSimple.mono _ _ _
      | exact LeO.none _
      | refine LeO.ite ?_ ?_
      | refine LeO.bind ?_ (fun _ => ?_)
theorem laws_txTexts.mono : ∀ a0 k, LeO (laws_txTexts.f k a0) (laws_txTexts.f (k + 1) a0) := by
  intro a0 k
  have ih0 := laws_txTexts.mono_l k
  unfold laws_txTexts.f
  repeat' first
      | (with_reducible exact ih0 _ _ _ _ _)
      | (with_reducible exact spec_TxSimple.mono _ _ _)
      | (with_reducible exact LeO.refl _)
      | (with_reducible exact LeO.none _)
      | (with_reducible refine LeO.ite ?_ ?_)
      | (with_reducible refine LeO.bind ?_ (fun _ => ?_))
      | exact ih0 _ _ _ _ _
      | exact spec_TxSimple.mono _ _ _
      | exact LeO.none _
      | refine LeO.ite ?_ ?_
      | refine LeO.bind ?_ (fun _ => ?_)
set_option maxHeartbeats 8000000 in
set_option maxRecDepth 100000 in
theorem laws_txTexts.calls (k : Nat) (A0 : Option Addr) (c0 : Nat) (l0 : List ByteArray) (r1 : ByteArray) (r2 : Bool) (w : World) (hr0 : Kd.C Kd.string w A0 l0.length l0) (hc0 : l0.length ≤ c0) (h : laws_txTexts.f k l0 = some (r1, r2)) :
    Calls Tryd.prog 17 #[.slice A0 l0.length c0] w fun e w' => e = .returned (.tuple #[.string r1, .bool r2]) ∧ Below w.heap.size w w' := by
  have HR0 := Aside0.mk hr0
  have HC0 := Aside0.mk hc0
  clear hr0 hc0
  have HB := Aside0.mk (Below.refl w.heap.size w)
  have H : (laws_txTexts.l0 k l0 (⟨#[]⟩ : ByteArray) l0 (l0.length : Int) 0) = some (r1, r2) := h
  clear h
  have H' := Aside0.mk H
  clear H
  go_enter Tryd.func17, Tryd.ntmps17
  go_wp2
  go_loopg [4, 9] k (fun kq v4 v9 w' => ∃ (x4_1 : ByteArray) (x9_1 : Int), v4 = .string x4_1 ∧ v9 = .int .i64 x9_1 ∧ Aside0 (laws_txTexts.l0 kq l0 x4_1 l0 (l0.length : Int) x9_1 = some (r1, r2)) ∧ Aside0 (kq ≤ k) ∧ Aside0 (Below w.heap.size w w'))
  case atStart => exact ⟨((⟨#[]⟩ : ByteArray)), (0), (by first | rfl | (simp; done) | (simp [*]; done)), (by first | rfl | (simp; done) | (simp [*]; done)), H', ⟨Nat.le_refl _⟩, ⟨by repeat (first | (with_reducible first | exact HB.out | apply below_alloc | apply pw_below_drewN | apply below_drew1) | exact HB.out)⟩⟩
  case round =>
    clear H'
    try clear c1
    obtain ⟨x4_1, x9_1, rfl, rfl, HA, HK1, HB⟩ := hrel
    cases gk with
    | zero => exact absurd HA.out (by simp [laws_txTexts.l0])
    | succ k1 =>
      have H := HA.out
      clear HA
      simp only [laws_txTexts.l0] at H
      by_cases c2 : x9_1 < (l0.length : Int)
      · rw [if_pos c2] at H
        have c2b0 : decide (x9_1 < (l0.length : Int)) = true := decide_eq_true c2
        clear c2
        by_cases c3 : 0 ≤ x9_1
        · rw [if_pos c3] at H
          have c3b0 : decide (0 ≤ x9_1) = true := decide_eq_true c3
          clear c3
          by_cases c4 : x9_1 < (l0.length : Int)
          · rw [if_pos c4] at H
            have c4b0 : decide (x9_1 < (l0.length : Int)) = true := decide_eq_true c4
            clear c4
            by_cases c5 : ((rdOf ByteArray.empty l0 x9_1).size : Int) > 300
            · rw [if_pos c5] at H
              have c5b0 : decide (300 < ((rdOf ByteArray.empty l0 x9_1).size : Int)) = true := decide_eq_true c5
              have c5b1 : decide (300 < (rdOf ByteArray.empty l0 x9_1).size) = true := decide_eq_true (by omega)
              clear c5
              simp only [Option.some.injEq, Prod.mk.injEq] at H
              obtain ⟨rfl, rfl⟩ := H
              have p111 : 0 ≤ (x9_1 : Int) := of_decide_eq_true (by first | (with_reducible assumption) | assumption)
              have q111 : x9_1 < (l0.length : Int) := of_decide_eq_true (by first | (with_reducible assumption) | assumption)
              obtain ⟨ad111, e111, hx111_0⟩ := Kd.at_string HR0.out x9_1 p111 q111
              cases e111
              replace hx111_0 := (HB.out.cell (World.block_lt_of_cell? w _ hx111_0)).trans hx111_0
              (try simp only [Go.IntWalk.toNatUp] at hx111_0)
              replace p111 := eq_true p111
              replace q111 := eq_true q111
              go_wp2
              go_ret2
              exact ⟨by first | rfl | (simp [errW_none, errW_some] <;> rfl) | (simp [*, errW_none, errW_some] <;> rfl), by repeat (first | (with_reducible first | exact HB.out | apply below_alloc | apply pw_below_drewN | apply below_drew1) | exact HB.out)⟩
            · rw [if_neg c5] at H
              have c5b0 : decide (300 < ((rdOf ByteArray.empty l0 x9_1).size : Int)) = false := decide_eq_false c5
              have c5b1 : decide (300 < (rdOf ByteArray.empty l0 x9_1).size) = false := decide_eq_false (by omega)
              clear c5
              replace H := Option.bind_eq_some_iff.mp H
              obtain ⟨t112, A60, H⟩ := H
              replace H : (if t112 = true then (if x4_1.size + (rdOf ByteArray.empty l0 x9_1).size ≤ 9223372036854775807 then (laws_txTexts.l0 k1 l0 (x4_1 ++ (rdOf ByteArray.empty l0 x9_1)) l0 (l0.length : Int) (wrap64 (x9_1 + 1))) else (none)) else (some ((⟨#[]⟩ : ByteArray), false))) = some (r1, r2) := H
              have A6 := Aside0.mk A60
              clear A60
              by_cases c7 : t112 = true
              · subst c7
                have H1 : (if x4_1.size + (rdOf ByteArray.empty l0 x9_1).size ≤ 9223372036854775807 then (laws_txTexts.l0 k1 l0 (x4_1 ++ (rdOf ByteArray.empty l0 x9_1)) l0 (l0.length : Int) (wrap64 (x9_1 + 1))) else (none)) = some (r1, r2) := by rw [if_pos rfl] at H; exact H
                clear H
                have H := H1
                clear H1
                by_cases c8 : x4_1.size + (rdOf ByteArray.empty l0 x9_1).size ≤ 9223372036854775807
                · rw [if_pos c8] at H
                  have c8b0 := eq_true c8
                  have c8b1 : decide (x4_1.size + (rdOf ByteArray.empty l0 x9_1).size ≤ 9223372036854775807) = true := decide_eq_true c8
                  try have c8b2 : (9223372036854775807 < x4_1.size + (rdOf ByteArray.empty l0 x9_1).size) = False := eq_false (Nat.not_lt.2 c8)
                  have H' := Aside0.mk H
                  clear H
                  have p111 : 0 ≤ (x9_1 : Int) := of_decide_eq_true (by first | (with_reducible assumption) | assumption)
                  have q111 : x9_1 < (l0.length : Int) := of_decide_eq_true (by first | (with_reducible assumption) | assumption)
                  obtain ⟨ad111, e111, hx111_0⟩ := Kd.at_string HR0.out x9_1 p111 q111
                  cases e111
                  replace hx111_0 := (HB.out.cell (World.block_lt_of_cell? w _ hx111_0)).trans hx111_0
                  (try simp only [Go.IntWalk.toNatUp] at hx111_0)
                  replace p111 := eq_true p111
                  replace q111 := eq_true q111
                  go_wp2_with (first | (go_at_call 20; (with_reducible refine (spec_TxSimple.calls k1 (rdOf ByteArray.empty l0 x9_1) false true _ A6.out).mono ?_); rintro e w9 ⟨rfl, hb⟩; have n0_ := Aside0.mk (below_step (by repeat (first | (with_reducible first | exact HB.out | apply below_alloc | apply pw_below_drewN | apply below_drew1) | exact HB.out)) hb); clear HB; have HB := n0_; clear n0_; (try clear hb); (try clear hb2); (try clear hk); (try clear hi)))
                  go_roundg k1
                  case measure => have := HK1.out; omega
                  case rel => exact ⟨(x4_1 ++ (rdOf ByteArray.empty l0 x9_1)), (wrap64 (x9_1 + 1)), (by first | rfl | (simp; done) | (simp [*]; done)), (by first | rfl | (simp; done) | (simp [*]; done)), H', ⟨by have := HK1.out; omega⟩, ⟨by repeat (first | (with_reducible first | exact HB.out | apply below_alloc | apply pw_below_drewN | apply below_drew1) | exact HB.out)⟩⟩
                · rw [if_neg c8] at H
                  exact absurd H (by simp)
              · replace c7 := Bool.eq_false_iff.mpr c7
                subst c7
                have H1 : (some ((⟨#[]⟩ : ByteArray), false)) = some (r1, r2) := by rw [if_neg (show ¬ (false = true) by decide)] at H; exact H
                clear H
                have H := H1
                clear H1
                simp only [Option.some.injEq, Prod.mk.injEq] at H
                obtain ⟨rfl, rfl⟩ := H
                have p111 : 0 ≤ (x9_1 : Int) := of_decide_eq_true (by first | (with_reducible assumption) | assumption)
                have q111 : x9_1 < (l0.length : Int) := of_decide_eq_true (by first | (with_reducible assumption) | assumption)
                obtain ⟨ad111, e111, hx111_0⟩ := Kd.at_string HR0.out x9_1 p111 q111
                cases e111
                replace hx111_0 := (HB.out.cell (World.block_lt_of_cell? w _ hx111_0)).trans hx111_0
                (try simp only [Go.IntWalk.toNatUp] at hx111_0)
                replace p111 := eq_true p111
                replace q111 := eq_true q111
                go_wp2_with (first | (go_at_call 20; (with_reducible refine (spec_TxSimple.calls k1 (rdOf ByteArray.empty l0 x9_1) false false _ A6.out).mono ?_); rintro e w10 ⟨rfl, hb⟩; have n0_ := Aside0.mk (below_step (by repeat (first | (with_reducible first | exact HB.out | apply below_alloc | apply pw_below_drewN | apply below_drew1) | exact HB.out)) hb); clear HB; have HB := n0_; clear n0_; (try clear hb); (try clear hb2); (try clear hk); (try clear hi)))
                go_ret2
                exact ⟨by first | rfl | (simp [errW_none, errW_some] <;> rfl) | (simp [*, errW_none, errW_some] <;> rfl), by repeat (first | (with_reducible first | exact HB.out | apply below_alloc | apply pw_below_drewN | apply below_drew1) | exact HB.out)⟩
          · rw [if_neg c4] at H
            exact absurd H (by simp)
        · rw [if_neg c3] at H
          exact absurd H (by simp)
      · rw [if_neg c2] at H
        have c2b0 : decide (x9_1 < (l0.length : Int)) = false := decide_eq_false c2
        clear c2
        by_cases c11 : x4_1.toList = ([] : List UInt8)
        · rw [if_pos c11] at H
          have c11b0 : (x4_1.toList == ([] : List UInt8)) = true := beq_iff_eq.mpr c11
          have c11b1 : (x4_1.toList != ([] : List UInt8)) = false := bne_eq_false_iff_eq.mpr c11
          clear c11
          simp only [Option.some.injEq, Prod.mk.injEq] at H
          obtain ⟨rfl, rfl⟩ := H
          go_wp2
          go_ret2
          exact ⟨by first | rfl | (simp [errW_none, errW_some] <;> rfl) | (simp [*, errW_none, errW_some] <;> rfl), by repeat (first | (with_reducible first | exact HB.out | apply below_alloc | apply pw_below_drewN | apply below_drew1) | exact HB.out)⟩
        · rw [if_neg c11] at H
          have c11b0 : (x4_1.toList == ([] : List UInt8)) = false := beq_eq_false_iff_ne.mpr c11
          have c11b1 : (x4_1.toList != ([] : List UInt8)) = true := bne_iff_ne.mpr c11
          simp only [Option.some.injEq, Prod.mk.injEq] at H
          obtain ⟨rfl, rfl⟩ := H
          go_wp2
          go_ret2
          exact ⟨by first | rfl | (simp [errW_none, errW_some] <;> rfl) | (simp [*, errW_none, errW_some] <;> rfl), by repeat (first | (with_reducible first | exact HB.out | apply below_alloc | apply pw_below_drewN | apply below_drew1) | exact HB.out)⟩

-- BY HAND: function 22 (text_Escape)

/-! ### text_colorize: function 40 -/
def text_colorize.f (k : Nat) (a0 : ByteArray) (a1 : ByteArray) : Option (ByteArray) := if a1.toList = ([] : List UInt8) then (some a0) else ((text_Escape.f k a0 a1).bind fun t113 => (some t113))
theorem text_colorize.mono : ∀ a0 a1 k, LeO (text_colorize.f k a0 a1) (text_colorize.f (k + 1) a0 a1) := by
  intro a0 a1 k
  unfold text_colorize.f
  repeat' first
      | (with_reducible exact text_Escape.mono _ _ _)
      | (with_reducible exact LeO.refl _)
      | (with_reducible exact LeO.none _)
      | (with_reducible refine LeO.ite ?_ ?_)
      | (with_reducible refine LeO.bind ?_ (fun _ => ?_))
      | exact text_Escape.mono _ _ _
      | exact LeO.none _
      | refine LeO.ite ?_ ?_
      | refine LeO.bind ?_ (fun _ => ?_)
set_option maxHeartbeats 8000000 in
set_option maxRecDepth 100000 in
theorem text_colorize.calls (k : Nat) (a0 : ByteArray) (a1 : ByteArray) (r : ByteArray) (w : World) (h : text_colorize.f k a0 a1 = some r) :
    Calls Tryd.prog 40 #[.string a0, .string a1] w fun e w' => e = .returned (.string r) ∧ Below w.heap.size w w' := by
  have HB := Aside0.mk (Below.refl w.heap.size w)
  have H : (if a1.toList = ([] : List UInt8) then (some a0) else ((text_Escape.f k a0 a1).bind fun t113 => (some t113))) = some r := h
  clear h
  by_cases c3 : a1.toList = ([] : List UInt8)
  · rw [if_pos c3] at H
    have c3b0 : (a1.toList == ([] : List UInt8)) = true := beq_iff_eq.mpr c3
    have c3b1 : (a1.toList != ([] : List UInt8)) = false := bne_eq_false_iff_eq.mpr c3
    clear c3
    obtain rfl := Option.some.inj H
    go_enter Tryd.func40, Tryd.ntmps40
    go_wp2
    go_ret
    exact ⟨by first | rfl | (simp [errW_none, errW_some] <;> rfl) | (simp [*, errW_none, errW_some] <;> rfl), by repeat (first | (with_reducible first | exact HB.out | apply below_alloc | apply pw_below_drewN | apply below_drew1) | exact HB.out)⟩
  · rw [if_neg c3] at H
    have c3b0 : (a1.toList == ([] : List UInt8)) = false := beq_eq_false_iff_ne.mpr c3
    have c3b1 : (a1.toList != ([] : List UInt8)) = true := bne_iff_ne.mpr c3
    replace H := Option.bind_eq_some_iff.mp H
    obtain ⟨t113, A40, H⟩ := H
    replace H : (some t113) = some r := H
    have A4 := Aside0.mk A40
    clear A40
    obtain rfl := Option.some.inj H
    go_enter Tryd.func40, Tryd.ntmps40
    go_wp2_with (first | ((with_reducible refine gate_callee (f := 22) rfl ?_); refine goesL_ (some 12) rfl rfl Tryd.func22 (by kernel_rfl) rfl #[.string a0, .string a1] rfl (by (try simp only [List.map_toArray, List.map_cons, List.map_nil]); first | done | rfl | (simp only [List.length_drop, List.length_take]; rfl)) ?_; (with_reducible refine (text_Escape.calls k a0 a1 t113 _ A4.out).mono ?_); rintro e w5 ⟨rfl, hb⟩; refine ⟨_, rfl, ?_⟩; have n0_ := Aside0.mk (below_step (by repeat (first | (with_reducible first | exact HB.out | apply below_alloc | apply pw_below_drewN | apply below_drew1) | exact HB.out)) hb); clear HB; have HB := n0_; clear n0_; (try clear hb); (try clear hb2); (try clear hk); (try clear hi)))
    go_ret
    exact ⟨by first | rfl | (simp [errW_none, errW_some] <;> rfl) | (simp [*, errW_none, errW_some] <;> rfl), by repeat (first | (with_reducible first | exact HB.out | apply below_alloc | apply pw_below_drewN | apply below_drew1) | exact HB.out)⟩

-- BY HAND: function 41 (strings_Join)

-- BY HAND: function 77 (lightstrconv_FormatUint)

/-! ### lightstrconv_FormatInt: function 68 -/
def lightstrconv_FormatInt.f (a0 : Int) (a1 : Int) : Option (ByteArray) := if a0 < 0 then ((lightstrconv_FormatUint.f (IntKind.u64.wrap (-(IntKind.u64.wrap (a0)))) a1).bind fun t114 => (if 1 + t114.size ≤ 9223372036854775807 then (some ((⟨#[45]⟩ : ByteArray) ++ t114)) else (none))) else ((lightstrconv_FormatUint.f (IntKind.u64.wrap (a0)) a1).bind fun t115 => (some t115))
set_option maxHeartbeats 8000000 in
set_option maxRecDepth 100000 in
theorem lightstrconv_FormatInt.calls (a0 : Int) (a1 : Int) (r : ByteArray) (w : World) (h : lightstrconv_FormatInt.f a0 a1 = some r) :
    Calls Tryd.prog 68 #[.int .i64 a0, .int .i64 a1] w fun e w' => e = .returned (.string r) ∧ Below w.heap.size w w' := by
  have HB := Aside0.mk (Below.refl w.heap.size w)
  have H : (if a0 < 0 then ((lightstrconv_FormatUint.f (IntKind.u64.wrap (-(IntKind.u64.wrap (a0)))) a1).bind fun t114 => (if 1 + t114.size ≤ 9223372036854775807 then (some ((⟨#[45]⟩ : ByteArray) ++ t114)) else (none))) else ((lightstrconv_FormatUint.f (IntKind.u64.wrap (a0)) a1).bind fun t115 => (some t115))) = some r := h
  clear h
  by_cases c3 : a0 < 0
  · rw [if_pos c3] at H
    have c3b0 : decide (a0 < 0) = true := decide_eq_true c3
    clear c3
    replace H := Option.bind_eq_some_iff.mp H
    obtain ⟨t114, A40, H⟩ := H
    replace H : (if 1 + t114.size ≤ 9223372036854775807 then (some ((⟨#[45]⟩ : ByteArray) ++ t114)) else (none)) = some r := H
    have A4 := Aside0.mk A40
    clear A40
    by_cases c5 : 1 + t114.size ≤ 9223372036854775807
    · rw [if_pos c5] at H
      have c5b0 := eq_true c5
      have c5b1 : decide (1 + t114.size ≤ 9223372036854775807) = true := decide_eq_true c5
      try have c5b2 : (9223372036854775807 < 1 + t114.size) = False := eq_false (Nat.not_lt.2 c5)
      obtain rfl := Option.some.inj H
      go_enter Tryd.func68, Tryd.ntmps68
      go_wp2_with (first | ((with_reducible refine gate_callee (f := 77) rfl ?_); refine goesL_ (some 11) rfl rfl Tryd.func77 (by kernel_rfl) rfl #[.int .u64 (IntKind.u64.wrap (-(IntKind.u64.wrap (a0)))), .int .i64 a1] rfl (by (try simp only [List.map_toArray, List.map_cons, List.map_nil]); first | done | rfl | (simp only [List.length_drop, List.length_take]; rfl)) ?_; (with_reducible refine (lightstrconv_FormatUint.calls (IntKind.u64.wrap (-(IntKind.u64.wrap (a0)))) a1 t114 _ A4.out).mono ?_); rintro e w6 ⟨rfl, hb⟩; refine ⟨_, rfl, ?_⟩; have n0_ := Aside0.mk (below_step (by repeat (first | (with_reducible first | exact HB.out | apply below_alloc | apply pw_below_drewN | apply below_drew1) | exact HB.out)) hb); clear HB; have HB := n0_; clear n0_; (try clear hb); (try clear hb2); (try clear hk); (try clear hi)))
      go_ret
      exact ⟨by first | rfl | (simp [errW_none, errW_some] <;> rfl) | (simp [*, errW_none, errW_some] <;> rfl), by repeat (first | (with_reducible first | exact HB.out | apply below_alloc | apply pw_below_drewN | apply below_drew1) | exact HB.out)⟩
    · rw [if_neg c5] at H
      exact absurd H (by simp)
  · rw [if_neg c3] at H
    have c3b0 : decide (a0 < 0) = false := decide_eq_false c3
    clear c3
    replace H := Option.bind_eq_some_iff.mp H
    obtain ⟨t115, A70, H⟩ := H
    replace H : (some t115) = some r := H
    have A7 := Aside0.mk A70
    clear A70
    obtain rfl := Option.some.inj H
    go_enter Tryd.func68, Tryd.ntmps68
    go_wp2_with (first | ((with_reducible refine gate_callee (f := 77) rfl ?_); refine goesL_ (some 16) rfl rfl Tryd.func77 (by kernel_rfl) rfl #[.int .u64 (IntKind.u64.wrap (a0)), .int .i64 a1] rfl (by (try simp only [List.map_toArray, List.map_cons, List.map_nil]); first | done | rfl | (simp only [List.length_drop, List.length_take]; rfl)) ?_; (with_reducible refine (lightstrconv_FormatUint.calls (IntKind.u64.wrap (a0)) a1 t115 _ A7.out).mono ?_); rintro e w8 ⟨rfl, hb⟩; refine ⟨_, rfl, ?_⟩; have n0_ := Aside0.mk (below_step (by repeat (first | (with_reducible first | exact HB.out | apply below_alloc | apply pw_below_drewN | apply below_drew1) | exact HB.out)) hb); clear HB; have HB := n0_; clear n0_; (try clear hb); (try clear hb2); (try clear hk); (try clear hi)))
    go_ret
    exact ⟨by first | rfl | (simp [errW_none, errW_some] <;> rfl) | (simp [*, errW_none, errW_some] <;> rfl), by repeat (first | (with_reducible first | exact HB.out | apply below_alloc | apply pw_below_drewN | apply below_drew1) | exact HB.out)⟩

/-! ### lightstrconv_Itoa: function 56 -/
def lightstrconv_Itoa.f (a0 : Int) : Option (ByteArray) := (lightstrconv_FormatInt.f a0 10).bind fun t116 => (some t116)
set_option maxHeartbeats 8000000 in
set_option maxRecDepth 100000 in
theorem lightstrconv_Itoa.calls (a0 : Int) (r : ByteArray) (w : World) (h : lightstrconv_Itoa.f a0 = some r) :
    Calls Tryd.prog 56 #[.int .i64 a0] w fun e w' => e = .returned (.string r) ∧ Below w.heap.size w w' := by
  have HB := Aside0.mk (Below.refl w.heap.size w)
  have H : ((lightstrconv_FormatInt.f a0 10).bind fun t116 => (some t116)) = some r := h
  clear h
  replace H := Option.bind_eq_some_iff.mp H
  obtain ⟨t116, A20, H⟩ := H
  replace H : (some t116) = some r := H
  have A2 := Aside0.mk A20
  clear A20
  obtain rfl := Option.some.inj H
  go_enter Tryd.func56, Tryd.ntmps56
  go_wp2_with (first | ((with_reducible refine gate_callee (f := 68) rfl ?_); refine goesL_ (some 4) rfl rfl Tryd.func68 (by kernel_rfl) rfl #[.int .i64 a0, .int .i64 10] rfl (by (try simp only [List.map_toArray, List.map_cons, List.map_nil]); first | done | rfl | (simp only [List.length_drop, List.length_take]; rfl)) ?_; (with_reducible refine (lightstrconv_FormatInt.calls a0 10 t116 _ A2.out).mono ?_); rintro e w3 ⟨rfl, hb⟩; refine ⟨_, rfl, ?_⟩; have n0_ := Aside0.mk (below_step (by repeat (first | (with_reducible first | exact HB.out | apply below_alloc | apply pw_below_drewN | apply below_drew1) | exact HB.out)) hb); clear HB; have HB := n0_; clear n0_; (try clear hb); (try clear hb2); (try clear hk); (try clear hi)))
  go_ret
  exact ⟨by first | rfl | (simp [errW_none, errW_some] <;> rfl) | (simp [*, errW_none, errW_some] <;> rfl), by repeat (first | (with_reducible first | exact HB.out | apply below_alloc | apply pw_below_drewN | apply below_drew1) | exact HB.out)⟩

/-! ### text_Color_EscapeSeq: function 42 -/
mutual
def text_Color_EscapeSeq.j0 : Nat → Int → Bool → Option (ByteArray)
  | 0, _, _ => none
  | k + 1, x0, x10 => if x10 = true then ((lightstrconv_Itoa.f (wrap64 (x0 - 1000))).bind fun t117 => (if 7 + t117.size ≤ 9223372036854775807 then (if ((⟨#[27, 91, 51, 56, 59, 53, 59]⟩ : ByteArray) ++ t117).size + 1 ≤ 9223372036854775807 then (some (((⟨#[27, 91, 51, 56, 59, 53, 59]⟩ : ByteArray) ++ t117) ++ (⟨#[109]⟩ : ByteArray))) else (none)) else (none))) else (if x0 ≥ 2000 then (text_Color_EscapeSeq.j1 k x0 (decide (x0 < 2256))) else (text_Color_EscapeSeq.j1 k x0 false))
def text_Color_EscapeSeq.j1 : Nat → Int → Bool → Option (ByteArray)
  | 0, _, _ => none
  | k + 1, x0, x22 => if x22 = true then ((lightstrconv_Itoa.f (wrap64 (x0 - 2000))).bind fun t118 => (if 7 + t118.size ≤ 9223372036854775807 then (if ((⟨#[27, 91, 52, 56, 59, 53, 59]⟩ : ByteArray) ++ t118).size + 1 ≤ 9223372036854775807 then (some (((⟨#[27, 91, 52, 56, 59, 53, 59]⟩ : ByteArray) ++ t118) ++ (⟨#[109]⟩ : ByteArray))) else (none)) else (none))) else ((lightstrconv_Itoa.f x0).bind fun t119 => (if 2 + t119.size ≤ 9223372036854775807 then (if ((⟨#[27, 91]⟩ : ByteArray) ++ t119).size + 1 ≤ 9223372036854775807 then (some (((⟨#[27, 91]⟩ : ByteArray) ++ t119) ++ (⟨#[109]⟩ : ByteArray))) else (none)) else (none)))
end
def text_Color_EscapeSeq.f (k : Nat) (a0 : Int) : Option (ByteArray) := if a0 ≥ 1000 then (text_Color_EscapeSeq.j0 k a0 (decide (a0 < 1256))) else (text_Color_EscapeSeq.j0 k a0 false)
theorem text_Color_EscapeSeq.mono_l : ∀ k, (∀ y0 y1, LeO (text_Color_EscapeSeq.j0 k y0 y1) (text_Color_EscapeSeq.j0 (k + 1) y0 y1)) ∧ (∀ y0 y1, LeO (text_Color_EscapeSeq.j1 k y0 y1) (text_Color_EscapeSeq.j1 (k + 1) y0 y1))
  | 0 => ⟨fun _ _ r h => by simp [text_Color_EscapeSeq.j0] at h, fun _ _ r h => by simp [text_Color_EscapeSeq.j1] at h⟩
  | k + 1 => by
    obtain ⟨ih0, ih1⟩ := text_Color_EscapeSeq.mono_l k
    refine ⟨?_, ?_⟩
    · intro y0 y1
      unfold text_Color_EscapeSeq.j0
      repeat' first
      | (with_reducible exact ih0 _ _)
      | (with_reducible exact ih1 _ _)
      | (with_reducible exact LeO.refl _)
      | (with_reducible exact LeO.none _)
      | (with_reducible refine LeO.ite ?_ ?_)
      | (with_reducible refine LeO.bind ?_ (fun _ => ?_))
      | exact ih0 _ _
      | exact ih1 _ _
      | exact LeO.none _
      | refine LeO.ite ?_ ?_
      | refine LeO.bind ?_ (fun _ => ?_)
    · intro y0 y1
      unfold text_Color_EscapeSeq.j1
      repeat' first
      | (with_reducible exact ih0 _ _)
      | (with_reducible exact ih1 _ _)
      | (with_reducible exact LeO.refl _)
      | (with_reducible exact LeO.none _)
      | (with_reducible refine LeO.ite ?_ ?_)
      | (with_reducible refine LeO.bind ?_ (fun _ => ?_))
      | exact ih0 _ _
      | exact ih1 _ _
      | exact LeO.none _
      | refine LeO.ite ?_ ?_
      | refine LeO.bind ?_ (fun _ => ?_)
theorem text_Color_EscapeSeq.mono : ∀ a0 k, LeO (text_Color_EscapeSeq.f k a0) (text_Color_EscapeSeq.f (k + 1) a0) := by
  intro a0 k
  obtain ⟨ih0, ih1⟩ := text_Color_EscapeSeq.mono_l k
  unfold text_Color_EscapeSeq.f
  repeat' first
      | (with_reducible exact ih0 _ _)
      | (with_reducible exact ih1 _ _)
      | (with_reducible exact LeO.refl _)
      | (with_reducible exact LeO.none _)
      | (with_reducible refine LeO.ite ?_ ?_)
      | (with_reducible refine LeO.bind ?_ (fun _ => ?_))
      | exact ih0 _ _
      | exact ih1 _ _
      | exact LeO.none _
      | refine LeO.ite ?_ ?_
      | refine LeO.bind ?_ (fun _ => ?_)
set_option maxHeartbeats 8000000 in
set_option maxRecDepth 100000 in
theorem text_Color_EscapeSeq.calls (k : Nat) (a0 : Int) (r : ByteArray) (w : World) (h : text_Color_EscapeSeq.f k a0 = some r) :
    Calls Tryd.prog 42 #[.int .i64 a0] w fun e w' => e = .returned (.string r) ∧ Below w.heap.size w w' := by
  have HB := Aside0.mk (Below.refl w.heap.size w)
  have H : (if a0 ≥ 1000 then (text_Color_EscapeSeq.j0 k a0 (decide (a0 < 1256))) else (text_Color_EscapeSeq.j0 k a0 false)) = some r := h
  clear h
  have HC2 := Aside0.mk H
  clear H
  go_enter Tryd.func42, Tryd.ntmps42
  go_upto_region 1 with (fail)
  go_cut [10] (fun v10 wc => ∃ (kq : Nat) (x10_1 : Bool), v10 = .bool x10_1 ∧ Aside0 (text_Color_EscapeSeq.j0 kq a0 x10_1 = some r) ∧ Aside0 (kq ≤ k) ∧ Aside0 (Below w.heap.size w wc))
  case first =>
    have H := HC2.out
    clear HC2
    by_cases c3 : a0 ≥ 1000
    · rw [if_pos c3] at H
      have c3b0 : decide (1000 ≤ a0) = true := decide_eq_true c3
      clear c3
      (first | rw [c3b0] | (simp only [i64_w, i32_w]; rw [c3b0]) | skip)
      have H' := Aside0.mk H
      clear H
      go_wp2
      go_meet
      case rel => exact ⟨_, (decide (a0 < 1256)), (by first | rfl | (simp; done) | (simp [*]; done)), H', ⟨by first | omega | exact Nat.le_refl _⟩, ⟨by repeat (first | (with_reducible first | exact HB.out | apply below_alloc | apply pw_below_drewN | apply below_drew1) | exact HB.out)⟩⟩
    · rw [if_neg c3] at H
      have c3b0 : decide (1000 ≤ a0) = false := decide_eq_false c3
      clear c3
      (first | rw [c3b0] | (simp only [i64_w, i32_w]; rw [c3b0]) | skip)
      have H' := Aside0.mk H
      clear H
      go_wp2
      go_meet
      case rel => exact ⟨_, (false), (by first | rfl | (simp; done) | (simp [*]; done)), H', ⟨by first | omega | exact Nat.le_refl _⟩, ⟨by repeat (first | (with_reducible first | exact HB.out | apply below_alloc | apply pw_below_drewN | apply below_drew1) | exact HB.out)⟩⟩
  case rest =>
    clear HC2
    try clear p2
    try clear c3
    try clear c3b0
    obtain ⟨kq, x10_1, rfl, HA, HJ1, HB⟩ := hcut
    cases kq with
    | zero => exact absurd HA.out (by simp [text_Color_EscapeSeq.j0])
    | succ kj1 =>
      have H := HA.out
      clear HA
      simp only [text_Color_EscapeSeq.j0] at H
      by_cases c4 : x10_1 = true
      · subst c4
        have H1 : ((lightstrconv_Itoa.f (wrap64 (a0 - 1000))).bind fun t117 => (if 7 + t117.size ≤ 9223372036854775807 then (if ((⟨#[27, 91, 51, 56, 59, 53, 59]⟩ : ByteArray) ++ t117).size + 1 ≤ 9223372036854775807 then (some (((⟨#[27, 91, 51, 56, 59, 53, 59]⟩ : ByteArray) ++ t117) ++ (⟨#[109]⟩ : ByteArray))) else (none)) else (none))) = some r := by rw [if_pos rfl] at H; exact H
        clear H
        have H := H1
        clear H1
        replace H := Option.bind_eq_some_iff.mp H
        obtain ⟨t117, A50, H⟩ := H
        replace H : (if 7 + t117.size ≤ 9223372036854775807 then (if ((⟨#[27, 91, 51, 56, 59, 53, 59]⟩ : ByteArray) ++ t117).size + 1 ≤ 9223372036854775807 then (some (((⟨#[27, 91, 51, 56, 59, 53, 59]⟩ : ByteArray) ++ t117) ++ (⟨#[109]⟩ : ByteArray))) else (none)) else (none)) = some r := H
        have A5 := Aside0.mk A50
        clear A50
        by_cases c6 : 7 + t117.size ≤ 9223372036854775807
        · rw [if_pos c6] at H
          have c6b0 := eq_true c6
          have c6b1 : decide (7 + t117.size ≤ 9223372036854775807) = true := decide_eq_true c6
          try have c6b2 : (9223372036854775807 < 7 + t117.size) = False := eq_false (Nat.not_lt.2 c6)
          by_cases c7 : ((⟨#[27, 91, 51, 56, 59, 53, 59]⟩ : ByteArray) ++ t117).size + 1 ≤ 9223372036854775807
          · rw [if_pos c7] at H
            have c7b0 := eq_true c7
            have c7b1 : decide (((⟨#[27, 91, 51, 56, 59, 53, 59]⟩ : ByteArray) ++ t117).size + 1 ≤ 9223372036854775807) = true := decide_eq_true c7
            try have c7b2 : (9223372036854775807 < ((⟨#[27, 91, 51, 56, 59, 53, 59]⟩ : ByteArray) ++ t117).size + 1) = False := eq_false (Nat.not_lt.2 c7)
            try have c7b3 : (9223372036854775807 < 7 + t117.size + 1) = False := eq_false (Nat.not_lt.2 (by have z_ := c7; simp only [ByteArray.size_append] at z_; exact z_))
            obtain rfl := Option.some.inj H
            go_wp2_with (first | ((with_reducible refine gate_callee (f := 56) rfl ?_); refine goesL_ (some 14) rfl rfl Tryd.func56 (by kernel_rfl) rfl #[.int .i64 (wrap64 (a0 - 1000))] rfl (by (try simp only [List.map_toArray, List.map_cons, List.map_nil]); first | done | rfl | (simp only [List.length_drop, List.length_take]; rfl)) ?_; (with_reducible refine (lightstrconv_Itoa.calls (wrap64 (a0 - 1000)) t117 _ A5.out).mono ?_); rintro e w8 ⟨rfl, hb⟩; refine ⟨_, rfl, ?_⟩; have n0_ := Aside0.mk (below_step (by repeat (first | (with_reducible first | exact HB.out | apply below_alloc | apply pw_below_drewN | apply below_drew1) | exact HB.out)) hb); clear HB; have HB := n0_; clear n0_; (try clear hb); (try clear hb2); (try clear hk); (try clear hi)))
            go_ret
            exact ⟨by first | rfl | (simp [errW_none, errW_some] <;> rfl) | (simp [*, errW_none, errW_some] <;> rfl), by repeat (first | (with_reducible first | exact HB.out | apply below_alloc | apply pw_below_drewN | apply below_drew1) | exact HB.out)⟩
          · rw [if_neg c7] at H
            exact absurd H (by simp)
        · rw [if_neg c6] at H
          exact absurd H (by simp)
      · replace c4 := Bool.eq_false_iff.mpr c4
        subst c4
        have H1 : (if a0 ≥ 2000 then (text_Color_EscapeSeq.j1 kj1 a0 (decide (a0 < 2256))) else (text_Color_EscapeSeq.j1 kj1 a0 false)) = some r := by rw [if_neg (show ¬ (false = true) by decide)] at H; exact H
        clear H
        have H := H1
        clear H1
        have HC9 := Aside0.mk H
        clear H
        go_upto_region 4 with (fail)
        go_cut [22] (fun v22 wc => ∃ (kq : Nat) (x22_8 : Bool), v22 = .bool x22_8 ∧ Aside0 (text_Color_EscapeSeq.j1 kq a0 x22_8 = some r) ∧ Aside0 (kq ≤ kj1) ∧ Aside0 (Below w.heap.size w wc))
        case first =>
          have H := HC9.out
          clear HC9
          by_cases c10 : a0 ≥ 2000
          · rw [if_pos c10] at H
            have c10b0 : decide (2000 ≤ a0) = true := decide_eq_true c10
            clear c10
            (first | rw [c10b0] | (simp only [i64_w, i32_w]; rw [c10b0]) | skip)
            have H' := Aside0.mk H
            clear H
            go_wp2
            go_meet
            case rel => exact ⟨_, (decide (a0 < 2256)), (by first | rfl | (simp; done) | (simp [*]; done)), H', ⟨by have := HJ1.out; first | omega | exact Nat.le_refl _⟩, ⟨by repeat (first | (with_reducible first | exact HB.out | apply below_alloc | apply pw_below_drewN | apply below_drew1) | exact HB.out)⟩⟩
          · rw [if_neg c10] at H
            have c10b0 : decide (2000 ≤ a0) = false := decide_eq_false c10
            clear c10
            (first | rw [c10b0] | (simp only [i64_w, i32_w]; rw [c10b0]) | skip)
            have H' := Aside0.mk H
            clear H
            go_wp2
            go_meet
            case rel => exact ⟨_, (false), (by first | rfl | (simp; done) | (simp [*]; done)), H', ⟨by have := HJ1.out; first | omega | exact Nat.le_refl _⟩, ⟨by repeat (first | (with_reducible first | exact HB.out | apply below_alloc | apply pw_below_drewN | apply below_drew1) | exact HB.out)⟩⟩
        case rest =>
          clear HC9
          try clear c1
          try clear p2
          try clear c3
          try clear c3b0
          try clear c4
          try clear c5
          try clear c6
          try clear c6b0
          try clear c6b1
          try clear c6b2
          try clear p6
          try clear c7
          try clear c7b0
          try clear c7b1
          try clear c7b2
          try clear c10
          try clear c10b0
          try clear p2
          obtain ⟨kq, x22_8, rfl, HA, HJ8, HB⟩ := hcut
          cases kq with
          | zero => exact absurd HA.out (by simp [text_Color_EscapeSeq.j1])
          | succ kj8 =>
            have H := HA.out
            clear HA
            simp only [text_Color_EscapeSeq.j1] at H
            by_cases c11 : x22_8 = true
            · subst c11
              have H1 : ((lightstrconv_Itoa.f (wrap64 (a0 - 2000))).bind fun t118 => (if 7 + t118.size ≤ 9223372036854775807 then (if ((⟨#[27, 91, 52, 56, 59, 53, 59]⟩ : ByteArray) ++ t118).size + 1 ≤ 9223372036854775807 then (some (((⟨#[27, 91, 52, 56, 59, 53, 59]⟩ : ByteArray) ++ t118) ++ (⟨#[109]⟩ : ByteArray))) else (none)) else (none))) = some r := by rw [if_pos rfl] at H; exact H
              clear H
              have H := H1
              clear H1
              replace H := Option.bind_eq_some_iff.mp H
              obtain ⟨t118, A120, H⟩ := H
              replace H : (if 7 + t118.size ≤ 9223372036854775807 then (if ((⟨#[27, 91, 52, 56, 59, 53, 59]⟩ : ByteArray) ++ t118).size + 1 ≤ 9223372036854775807 then (some (((⟨#[27, 91, 52, 56, 59, 53, 59]⟩ : ByteArray) ++ t118) ++ (⟨#[109]⟩ : ByteArray))) else (none)) else (none)) = some r := H
              have A12 := Aside0.mk A120
              clear A120
              by_cases c13 : 7 + t118.size ≤ 9223372036854775807
              · rw [if_pos c13] at H
                have c13b0 := eq_true c13
                have c13b1 : decide (7 + t118.size ≤ 9223372036854775807) = true := decide_eq_true c13
                try have c13b2 : (9223372036854775807 < 7 + t118.size) = False := eq_false (Nat.not_lt.2 c13)
                by_cases c14 : ((⟨#[27, 91, 52, 56, 59, 53, 59]⟩ : ByteArray) ++ t118).size + 1 ≤ 9223372036854775807
                · rw [if_pos c14] at H
                  have c14b0 := eq_true c14
                  have c14b1 : decide (((⟨#[27, 91, 52, 56, 59, 53, 59]⟩ : ByteArray) ++ t118).size + 1 ≤ 9223372036854775807) = true := decide_eq_true c14
                  try have c14b2 : (9223372036854775807 < ((⟨#[27, 91, 52, 56, 59, 53, 59]⟩ : ByteArray) ++ t118).size + 1) = False := eq_false (Nat.not_lt.2 c14)
                  try have c14b3 : (9223372036854775807 < 7 + t118.size + 1) = False := eq_false (Nat.not_lt.2 (by have z_ := c14; simp only [ByteArray.size_append] at z_; exact z_))
                  obtain rfl := Option.some.inj H
                  go_wp2_with (first | ((with_reducible refine gate_callee (f := 56) rfl ?_); refine goesL_ (some 26) rfl rfl Tryd.func56 (by kernel_rfl) rfl #[.int .i64 (wrap64 (a0 - 2000))] rfl (by (try simp only [List.map_toArray, List.map_cons, List.map_nil]); first | done | rfl | (simp only [List.length_drop, List.length_take]; rfl)) ?_; (with_reducible refine (lightstrconv_Itoa.calls (wrap64 (a0 - 2000)) t118 _ A12.out).mono ?_); rintro e w15 ⟨rfl, hb⟩; refine ⟨_, rfl, ?_⟩; have n0_ := Aside0.mk (below_step (by repeat (first | (with_reducible first | exact HB.out | apply below_alloc | apply pw_below_drewN | apply below_drew1) | exact HB.out)) hb); clear HB; have HB := n0_; clear n0_; (try clear hb); (try clear hb2); (try clear hk); (try clear hi)))
                  go_ret
                  exact ⟨by first | rfl | (simp [errW_none, errW_some] <;> rfl) | (simp [*, errW_none, errW_some] <;> rfl), by repeat (first | (with_reducible first | exact HB.out | apply below_alloc | apply pw_below_drewN | apply below_drew1) | exact HB.out)⟩
                · rw [if_neg c14] at H
                  exact absurd H (by simp)
              · rw [if_neg c13] at H
                exact absurd H (by simp)
            · replace c11 := Bool.eq_false_iff.mpr c11
              subst c11
              have H1 : ((lightstrconv_Itoa.f a0).bind fun t119 => (if 2 + t119.size ≤ 9223372036854775807 then (if ((⟨#[27, 91]⟩ : ByteArray) ++ t119).size + 1 ≤ 9223372036854775807 then (some (((⟨#[27, 91]⟩ : ByteArray) ++ t119) ++ (⟨#[109]⟩ : ByteArray))) else (none)) else (none))) = some r := by rw [if_neg (show ¬ (false = true) by decide)] at H; exact H
              clear H
              have H := H1
              clear H1
              replace H := Option.bind_eq_some_iff.mp H
              obtain ⟨t119, A160, H⟩ := H
              replace H : (if 2 + t119.size ≤ 9223372036854775807 then (if ((⟨#[27, 91]⟩ : ByteArray) ++ t119).size + 1 ≤ 9223372036854775807 then (some (((⟨#[27, 91]⟩ : ByteArray) ++ t119) ++ (⟨#[109]⟩ : ByteArray))) else (none)) else (none)) = some r := H
              have A16 := Aside0.mk A160
              clear A160
              by_cases c17 : 2 + t119.size ≤ 9223372036854775807
              · rw [if_pos c17] at H
                have c17b0 := eq_true c17
                have c17b1 : decide (2 + t119.size ≤ 9223372036854775807) = true := decide_eq_true c17
                try have c17b2 : (9223372036854775807 < 2 + t119.size) = False := eq_false (Nat.not_lt.2 c17)
                by_cases c18 : ((⟨#[27, 91]⟩ : ByteArray) ++ t119).size + 1 ≤ 9223372036854775807
                · rw [if_pos c18] at H
                  have c18b0 := eq_true c18
                  have c18b1 : decide (((⟨#[27, 91]⟩ : ByteArray) ++ t119).size + 1 ≤ 9223372036854775807) = true := decide_eq_true c18
                  try have c18b2 : (9223372036854775807 < ((⟨#[27, 91]⟩ : ByteArray) ++ t119).size + 1) = False := eq_false (Nat.not_lt.2 c18)
                  try have c18b3 : (9223372036854775807 < 2 + t119.size + 1) = False := eq_false (Nat.not_lt.2 (by have z_ := c18; simp only [ByteArray.size_append] at z_; exact z_))
                  obtain rfl := Option.some.inj H
                  go_wp2_with (first | ((with_reducible refine gate_callee (f := 56) rfl ?_); refine goesL_ (some 30) rfl rfl Tryd.func56 (by kernel_rfl) rfl #[.int .i64 a0] rfl (by (try simp only [List.map_toArray, List.map_cons, List.map_nil]); first | done | rfl | (simp only [List.length_drop, List.length_take]; rfl)) ?_; (with_reducible refine (lightstrconv_Itoa.calls a0 t119 _ A16.out).mono ?_); rintro e w19 ⟨rfl, hb⟩; refine ⟨_, rfl, ?_⟩; have n0_ := Aside0.mk (below_step (by repeat (first | (with_reducible first | exact HB.out | apply below_alloc | apply pw_below_drewN | apply below_drew1) | exact HB.out)) hb); clear HB; have HB := n0_; clear n0_; (try clear hb); (try clear hb2); (try clear hk); (try clear hi)))
                  go_ret
                  exact ⟨by first | rfl | (simp [errW_none, errW_some] <;> rfl) | (simp [*, errW_none, errW_some] <;> rfl), by repeat (first | (with_reducible first | exact HB.out | apply below_alloc | apply pw_below_drewN | apply below_drew1) | exact HB.out)⟩
                · rw [if_neg c18] at H
                  exact absurd H (by simp)
              · rw [if_neg c17] at H
                exact absurd H (by simp)

/-! ### text_Color_Sprint: function 25 -/
def text_Color_Sprint.f (k : Nat) (a0 : Int) (l1 : List ByteArray) : Option (ByteArray) := (strings_Join.f l1 (⟨#[]⟩ : ByteArray)).bind fun t120 => ((text_Color_EscapeSeq.f k a0).bind fun t121 => ((text_colorize.f k t120 t121).bind fun t122 => (some t122)))
theorem text_Color_Sprint.mono : ∀ a0 a1 k, LeO (text_Color_Sprint.f k a0 a1) (text_Color_Sprint.f (k + 1) a0 a1) := by
  intro a0 a1 k
  unfold text_Color_Sprint.f
  repeat' first
      | (with_reducible exact text_Color_EscapeSeq.mono _ _)
      | (with_reducible exact text_colorize.mono _ _ _)
      | (with_reducible exact LeO.refl _)
      | (with_reducible exact LeO.none _)
      | (with_reducible refine LeO.ite ?_ ?_)
      | (with_reducible refine LeO.bind ?_ (fun _ => ?_))
      | exact text_Color_EscapeSeq.mono _ _
      | exact text_colorize.mono _ _ _
      | exact LeO.none _
      | refine LeO.ite ?_ ?_
      | refine LeO.bind ?_ (fun _ => ?_)
set_option maxHeartbeats 8000000 in
set_option maxRecDepth 100000 in
theorem text_Color_Sprint.calls (k : Nat) (a0 : Int) (A1 : Option Addr) (c1 : Nat) (l1 : List ByteArray) (r : ByteArray) (w : World) (hr1 : Kd.C Kd.string w A1 l1.length l1) (hc1 : l1.length ≤ c1) (h : text_Color_Sprint.f k a0 l1 = some r) :
    Calls Tryd.prog 25 #[.int .i64 a0, .slice A1 l1.length c1] w fun e w' => e = .returned (.string r) ∧ Below w.heap.size w w' := by
  have HR1 := Aside0.mk hr1
  have HC1 := Aside0.mk hc1
  clear hr1 hc1
  have HB := Aside0.mk (Below.refl w.heap.size w)
  have H : ((strings_Join.f l1 (⟨#[]⟩ : ByteArray)).bind fun t120 => ((text_Color_EscapeSeq.f k a0).bind fun t121 => ((text_colorize.f k t120 t121).bind fun t122 => (some t122)))) = some r := h
  clear h
  replace H := Option.bind_eq_some_iff.mp H
  obtain ⟨t120, A30, H⟩ := H
  replace H : ((text_Color_EscapeSeq.f k a0).bind fun t121 => ((text_colorize.f k t120 t121).bind fun t122 => (some t122))) = some r := H
  have A3 := Aside0.mk A30
  clear A30
  replace H := Option.bind_eq_some_iff.mp H
  obtain ⟨t121, A40, H⟩ := H
  replace H : ((text_colorize.f k t120 t121).bind fun t122 => (some t122)) = some r := H
  have A4 := Aside0.mk A40
  clear A40
  replace H := Option.bind_eq_some_iff.mp H
  obtain ⟨t122, A50, H⟩ := H
  replace H : (some t122) = some r := H
  have A5 := Aside0.mk A50
  clear A50
  obtain rfl := Option.some.inj H
  go_enter Tryd.func25, Tryd.ntmps25
  go_wp2_with (first | ((with_reducible refine gate_callee (f := 41) rfl ?_); refine goesL_ (some 6) rfl rfl Tryd.func41 (by kernel_rfl) rfl #[.slice A1 l1.length c1, .string (⟨#[]⟩ : ByteArray)] rfl (by (try simp only [List.map_toArray, List.map_cons, List.map_nil]); first | done | rfl | (simp only [List.length_drop, List.length_take]; rfl)) ?_; (with_reducible refine (strings_Join.calls _ _ l1 (⟨#[]⟩ : ByteArray) t120 _ ?side1 ?side2 A3.out).mono ?_); (case side1 => repeat (first | exact HR1.out | (with_reducible refine Kd.C_alloc ?_ _) | (with_reducible refine Kd.C_drewN ?_ _) | (with_reducible refine Kd.C_drew ?_))); (case side2 => exact HC1.out); rintro e w6 ⟨rfl, hb⟩; refine ⟨_, rfl, ?_⟩; have n0_ := Aside0.mk (below_step (by repeat (first | (with_reducible first | exact HB.out | apply below_alloc | apply pw_below_drewN | apply below_drew1) | exact HB.out)) hb); clear HB; have HB := n0_; clear n0_; (try clear hb); (try clear hb2); (try clear hk); (try clear hi)) | ((with_reducible refine gate_callee (f := 42) rfl ?_); refine goesL_ (some 8) rfl rfl Tryd.func42 (by kernel_rfl) rfl #[.int .i64 a0] rfl (by (try simp only [List.map_toArray, List.map_cons, List.map_nil]); first | done | rfl | (simp only [List.length_drop, List.length_take]; rfl)) ?_; (with_reducible refine (text_Color_EscapeSeq.calls k a0 t121 _ A4.out).mono ?_); rintro e w7 ⟨rfl, hb⟩; refine ⟨_, rfl, ?_⟩; have n0_ := Aside0.mk (below_step (by repeat (first | (with_reducible first | exact HB.out | apply below_alloc | apply pw_below_drewN | apply below_drew1) | exact HB.out)) hb); clear HB; have HB := n0_; clear n0_; (try clear hb); (try clear hb2); (try clear hk); (try clear hi)) | ((with_reducible refine gate_callee (f := 40) rfl ?_); refine goesL_ (some 9) rfl rfl Tryd.func40 (by kernel_rfl) rfl #[.string t120, .string t121] rfl (by (try simp only [List.map_toArray, List.map_cons, List.map_nil]); first | done | rfl | (simp only [List.length_drop, List.length_take]; rfl)) ?_; (with_reducible refine (text_colorize.calls k t120 t121 t122 _ A5.out).mono ?_); rintro e w8 ⟨rfl, hb⟩; refine ⟨_, rfl, ?_⟩; have n0_ := Aside0.mk (below_step (by repeat (first | (with_reducible first | exact HB.out | apply below_alloc | apply pw_below_drewN | apply below_drew1) | exact HB.out)) hb); clear HB; have HB := n0_; clear n0_; (try clear hb); (try clear hb2); (try clear hk); (try clear hi)))
  go_ret
  exact ⟨by first | rfl | (simp [errW_none, errW_some] <;> rfl) | (simp [*, errW_none, errW_some] <;> rfl), by repeat (first | (with_reducible first | exact HB.out | apply below_alloc | apply pw_below_drewN | apply below_drew1) | exact HB.out)⟩

/-! ### impl_TextColorPrint: function 18 -/
def impl_TextColorPrint.f (k : Nat) (a0 : Int) (l1 : List ByteArray) : Option (ByteArray) := (text_Color_Sprint.f k a0 l1).bind fun t123 => (some t123)
theorem impl_TextColorPrint.mono : ∀ a0 a1 k, LeO (impl_TextColorPrint.f k a0 a1) (impl_TextColorPrint.f (k + 1) a0 a1) := by
  intro a0 a1 k
  unfold impl_TextColorPrint.f
  repeat' first
      | (with_reducible exact text_Color_Sprint.mono _ _ _)
      | (with_reducible exact LeO.refl _)
      | (with_reducible exact LeO.none _)
      | (with_reducible refine LeO.ite ?_ ?_)
      | (with_reducible refine LeO.bind ?_ (fun _ => ?_))
      | exact text_Color_Sprint.mono _ _ _
      | exact LeO.none _
      | refine LeO.ite ?_ ?_
      | refine LeO.bind ?_ (fun _ => ?_)
set_option maxHeartbeats 8000000 in
set_option maxRecDepth 100000 in
theorem impl_TextColorPrint.calls (k : Nat) (a0 : Int) (A1 : Option Addr) (c1 : Nat) (l1 : List ByteArray) (r : ByteArray) (w : World) (hr1 : Kd.C Kd.string w A1 l1.length l1) (hc1 : l1.length ≤ c1) (h : impl_TextColorPrint.f k a0 l1 = some r) :
    Calls Tryd.prog 18 #[.int .i64 a0, .slice A1 l1.length c1] w fun e w' => e = .returned (.string r) ∧ Below w.heap.size w w' := by
  have HR1 := Aside0.mk hr1
  have HC1 := Aside0.mk hc1
  clear hr1 hc1
  have HB := Aside0.mk (Below.refl w.heap.size w)
  have H : ((text_Color_Sprint.f k a0 l1).bind fun t123 => (some t123)) = some r := h
  clear h
  replace H := Option.bind_eq_some_iff.mp H
  obtain ⟨t123, A30, H⟩ := H
  replace H : (some t123) = some r := H
  have A3 := Aside0.mk A30
  clear A30
  obtain rfl := Option.some.inj H
  go_enter Tryd.func18, Tryd.ntmps18
  go_wp2_with (first | ((with_reducible refine gate_callee (f := 25) rfl ?_); refine goesL_ (some 7) rfl rfl Tryd.func25 (by kernel_rfl) rfl #[.int .i64 a0, .slice A1 l1.length c1] rfl (by (try simp only [List.map_toArray, List.map_cons, List.map_nil]); first | done | rfl | (simp only [List.length_drop, List.length_take]; rfl)) ?_; (with_reducible refine (text_Color_Sprint.calls k a0 _ _ l1 t123 _ ?side1 ?side2 A3.out).mono ?_); (case side1 => repeat (first | exact HR1.out | (with_reducible refine Kd.C_alloc ?_ _) | (with_reducible refine Kd.C_drewN ?_ _) | (with_reducible refine Kd.C_drew ?_))); (case side2 => exact HC1.out); rintro e w4 ⟨rfl, hb⟩; refine ⟨_, rfl, ?_⟩; have n0_ := Aside0.mk (below_step (by repeat (first | (with_reducible first | exact HB.out | apply below_alloc | apply pw_below_drewN | apply below_drew1) | exact HB.out)) hb); clear HB; have HB := n0_; clear n0_; (try clear hb); (try clear hb2); (try clear hk); (try clear hi)))
  go_ret
  exact ⟨by first | rfl | (simp [errW_none, errW_some] <;> rfl) | (simp [*, errW_none, errW_some] <;> rfl), by repeat (first | (with_reducible first | exact HB.out | apply below_alloc | apply pw_below_drewN | apply below_drew1) | exact HB.out)⟩

/-! ### laws_FnTextColorPrint: function 5 -/
def laws_FnTextColorPrint.f (k : Nat) (a0 : Int) (l1 : List ByteArray) : Option (Bool) := (laws_zzFits4.f k l1).bind fun t124 => (if t124 = true then ((laws_txTexts.f k l1).bind fun bt125 => (if bt125.2 = true then ((spec_TxAttribute.f a0).bind fun t127 => (if t127 = true then ((impl_TextColorPrint.f k a0 l1).bind fun t128 => ((spec_TxSequence.f k (([a0] : List Int))).bind fun t132 => (if t132.size + bt125.1.size ≤ 9223372036854775807 then (if (t132 ++ bt125.1).size + 4 ≤ 9223372036854775807 then (some (t128.toList == ((t132 ++ bt125.1) ++ (⟨#[27, 91, 48, 109]⟩ : ByteArray)).toList)) else (none)) else (none)))) else (some true))) else (some true))) else (some true))
theorem laws_FnTextColorPrint.mono : ∀ a0 a1 k, LeO (laws_FnTextColorPrint.f k a0 a1) (laws_FnTextColorPrint.f (k + 1) a0 a1) := by
  intro a0 a1 k
  unfold laws_FnTextColorPrint.f
  repeat' first
      | (with_reducible exact impl_TextColorPrint.mono _ _ _)
      | (with_reducible exact laws_txTexts.mono _ _)
      | (with_reducible exact laws_zzFits4.mono _ _)
      | (with_reducible exact spec_TxSequence.mono _ _)
      | (with_reducible exact LeO.refl _)
      | (with_reducible exact LeO.none _)
      | (with_reducible refine LeO.ite ?_ ?_)
      | (with_reducible refine LeO.bind ?_ (fun _ => ?_))
      | exact impl_TextColorPrint.mono _ _ _
      | exact laws_txTexts.mono _ _
      | exact laws_zzFits4.mono _ _
      | exact spec_TxSequence.mono _ _
      | exact LeO.none _
      | refine LeO.ite ?_ ?_
      | refine LeO.bind ?_ (fun _ => ?_)
set_option maxHeartbeats 8000000 in
set_option maxRecDepth 100000 in
theorem laws_FnTextColorPrint.calls (k : Nat) (a0 : Int) (A1 : Option Addr) (c1 : Nat) (l1 : List ByteArray) (r : Bool) (w : World) (hT : LaidW w) (hr1 : Kd.C Kd.string w A1 l1.length l1) (hc1 : l1.length ≤ c1) (h : laws_FnTextColorPrint.f k a0 l1 = some r) :
    Calls Tryd.prog 5 #[.int .i64 a0, .slice A1 l1.length c1] w fun e w' => e = .returned (.bool r) ∧ Below w.heap.size w w' := by
  have HR1 := Aside0.mk hr1
  have HC1 := Aside0.mk hc1
  clear hr1 hc1
  have HB := Aside0.mk (Below.refl w.heap.size w)
  have H : ((laws_zzFits4.f k l1).bind fun t124 => (if t124 = true then ((laws_txTexts.f k l1).bind fun bt125 => (if bt125.2 = true then ((spec_TxAttribute.f a0).bind fun t127 => (if t127 = true then ((impl_TextColorPrint.f k a0 l1).bind fun t128 => ((spec_TxSequence.f k (([a0] : List Int))).bind fun t132 => (if t132.size + bt125.1.size ≤ 9223372036854775807 then (if (t132 ++ bt125.1).size + 4 ≤ 9223372036854775807 then (some (t128.toList == ((t132 ++ bt125.1) ++ (⟨#[27, 91, 48, 109]⟩ : ByteArray)).toList)) else (none)) else (none)))) else (some true))) else (some true))) else (some true))) = some r := h
  clear h
  replace H := Option.bind_eq_some_iff.mp H
  obtain ⟨t124, A30, H⟩ := H
  replace H : (if t124 = true then ((laws_txTexts.f k l1).bind fun bt125 => (if bt125.2 = true then ((spec_TxAttribute.f a0).bind fun t127 => (if t127 = true then ((impl_TextColorPrint.f k a0 l1).bind fun t128 => ((spec_TxSequence.f k (([a0] : List Int))).bind fun t132 => (if t132.size + bt125.1.size ≤ 9223372036854775807 then (if (t132 ++ bt125.1).size + 4 ≤ 9223372036854775807 then (some (t128.toList == ((t132 ++ bt125.1) ++ (⟨#[27, 91, 48, 109]⟩ : ByteArray)).toList)) else (none)) else (none)))) else (some true))) else (some true))) else (some true)) = some r := H
  have A3 := Aside0.mk A30
  clear A30
  by_cases c4 : t124 = true
  · subst c4
    have H1 : ((laws_txTexts.f k l1).bind fun bt125 => (if bt125.2 = true then ((spec_TxAttribute.f a0).bind fun t127 => (if t127 = true then ((impl_TextColorPrint.f k a0 l1).bind fun t128 => ((spec_TxSequence.f k (([a0] : List Int))).bind fun t132 => (if t132.size + bt125.1.size ≤ 9223372036854775807 then (if (t132 ++ bt125.1).size + 4 ≤ 9223372036854775807 then (some (t128.toList == ((t132 ++ bt125.1) ++ (⟨#[27, 91, 48, 109]⟩ : ByteArray)).toList)) else (none)) else (none)))) else (some true))) else (some true))) = some r := by rw [if_pos rfl] at H; exact H
    clear H
    have H := H1
    clear H1
    replace H := Option.bind_eq_some_iff.mp H
    obtain ⟨⟨t125, t126⟩, A50, H⟩ := H
    replace H : (if t126 = true then ((spec_TxAttribute.f a0).bind fun t127 => (if t127 = true then ((impl_TextColorPrint.f k a0 l1).bind fun t128 => ((spec_TxSequence.f k (([a0] : List Int))).bind fun t132 => (if t132.size + t125.size ≤ 9223372036854775807 then (if (t132 ++ t125).size + 4 ≤ 9223372036854775807 then (some (t128.toList == ((t132 ++ t125) ++ (⟨#[27, 91, 48, 109]⟩ : ByteArray)).toList)) else (none)) else (none)))) else (some true))) else (some true)) = some r := H
    have A5 := Aside0.mk A50
    clear A50
    by_cases c6 : t126 = true
    · subst c6
      have H1 : ((spec_TxAttribute.f a0).bind fun t127 => (if t127 = true then ((impl_TextColorPrint.f k a0 l1).bind fun t128 => ((spec_TxSequence.f k (([a0] : List Int))).bind fun t132 => (if t132.size + t125.size ≤ 9223372036854775807 then (if (t132 ++ t125).size + 4 ≤ 9223372036854775807 then (some (t128.toList == ((t132 ++ t125) ++ (⟨#[27, 91, 48, 109]⟩ : ByteArray)).toList)) else (none)) else (none)))) else (some true))) = some r := by rw [if_pos rfl] at H; exact H
      clear H
      have H := H1
      clear H1
      replace H := Option.bind_eq_some_iff.mp H
      obtain ⟨t127, A70, H⟩ := H
      replace H : (if t127 = true then ((impl_TextColorPrint.f k a0 l1).bind fun t128 => ((spec_TxSequence.f k (([a0] : List Int))).bind fun t132 => (if t132.size + t125.size ≤ 9223372036854775807 then (if (t132 ++ t125).size + 4 ≤ 9223372036854775807 then (some (t128.toList == ((t132 ++ t125) ++ (⟨#[27, 91, 48, 109]⟩ : ByteArray)).toList)) else (none)) else (none)))) else (some true)) = some r := H
      have A7 := Aside0.mk A70
      clear A70
      by_cases c8 : t127 = true
      · subst c8
        have H1 : ((impl_TextColorPrint.f k a0 l1).bind fun t128 => ((spec_TxSequence.f k (([a0] : List Int))).bind fun t132 => (if t132.size + t125.size ≤ 9223372036854775807 then (if (t132 ++ t125).size + 4 ≤ 9223372036854775807 then (some (t128.toList == ((t132 ++ t125) ++ (⟨#[27, 91, 48, 109]⟩ : ByteArray)).toList)) else (none)) else (none)))) = some r := by rw [if_pos rfl] at H; exact H
        clear H
        have H := H1
        clear H1
        replace H := Option.bind_eq_some_iff.mp H
        obtain ⟨t128, A90, H⟩ := H
        replace H : ((spec_TxSequence.f k (([a0] : List Int))).bind fun t132 => (if t132.size + t125.size ≤ 9223372036854775807 then (if (t132 ++ t125).size + 4 ≤ 9223372036854775807 then (some (t128.toList == ((t132 ++ t125) ++ (⟨#[27, 91, 48, 109]⟩ : ByteArray)).toList)) else (none)) else (none))) = some r := H
        have A9 := Aside0.mk A90
        clear A90
        obtain ⟨y129, hy129⟩ : ∃ y_ : List Int, y_ = (([a0] : List Int)) := ⟨_, rfl⟩
        replace H : ((spec_TxSequence.f k y129).bind fun t132 => (if t132.size + t125.size ≤ 9223372036854775807 then (if (t132 ++ t125).size + 4 ≤ 9223372036854775807 then (some (t128.toList == ((t132 ++ t125) ++ (⟨#[27, 91, 48, 109]⟩ : ByteArray)).toList)) else (none)) else (none))) = some r := by first | (rw [hy129]; with_reducible exact H) | (have H2_ := (Option.bind_some _ _).symm.trans H; rw [hy129]; with_reducible exact H2_) | (have H2_ := (Option.bind_some _ _).symm.trans H; with_reducible exact H2_) | with_reducible exact H | (rw [hy129]; exact H) | exact H
        have Ny129 := Aside0.mk hy129
        clear hy129
        replace H := Option.bind_eq_some_iff.mp H
        obtain ⟨t132, A100, H⟩ := H
        replace H : (if t132.size + t125.size ≤ 9223372036854775807 then (if (t132 ++ t125).size + 4 ≤ 9223372036854775807 then (some (t128.toList == ((t132 ++ t125) ++ (⟨#[27, 91, 48, 109]⟩ : ByteArray)).toList)) else (none)) else (none)) = some r := H
        have A10 := Aside0.mk A100
        clear A100
        by_cases c11 : t132.size + t125.size ≤ 9223372036854775807
        · rw [if_pos c11] at H
          have c11b0 := eq_true c11
          have c11b1 : decide (t132.size + t125.size ≤ 9223372036854775807) = true := decide_eq_true c11
          try have c11b2 : (9223372036854775807 < t132.size + t125.size) = False := eq_false (Nat.not_lt.2 c11)
          by_cases c12 : (t132 ++ t125).size + 4 ≤ 9223372036854775807
          · rw [if_pos c12] at H
            have c12b0 := eq_true c12
            have c12b1 : decide ((t132 ++ t125).size + 4 ≤ 9223372036854775807) = true := decide_eq_true c12
            try have c12b2 : (9223372036854775807 < (t132 ++ t125).size + 4) = False := eq_false (Nat.not_lt.2 c12)
            try have c12b3 : (9223372036854775807 < t132.size + t125.size + 4) = False := eq_false (Nat.not_lt.2 (by have z_ := c12; simp only [ByteArray.size_append] at z_; exact z_))
            obtain rfl := Option.some.inj H
            go_enter Tryd.func5, Tryd.ntmps5
            go_wp2_with (first | ((with_reducible refine gate_callee (f := 13) rfl ?_); refine goesL_ (some 8) rfl rfl Tryd.func13 (by kernel_rfl) rfl #[.slice A1 l1.length c1] rfl (by (try simp only [List.map_toArray, List.map_cons, List.map_nil]); first | done | rfl | (simp only [List.length_drop, List.length_take]; rfl)) ?_; (with_reducible refine (laws_zzFits4.calls k _ _ l1 true _ ?side1 ?side2 A3.out).mono ?_); (case side1 => repeat (first | exact HR1.out | (with_reducible refine Kd.C_alloc ?_ _) | (with_reducible refine Kd.C_drewN ?_ _) | (with_reducible refine Kd.C_drew ?_))); (case side2 => exact HC1.out); rintro e w' ⟨rfl, ⟨nd, rfl⟩⟩; refine ⟨_, rfl, ?_⟩) | ((with_reducible refine gate_callee (f := 17) rfl ?_); refine goesL_ (some 12) rfl rfl Tryd.func17 (by kernel_rfl) rfl #[.slice A1 l1.length c1] rfl (by (try simp only [List.map_toArray, List.map_cons, List.map_nil]); first | done | rfl | (simp only [List.length_drop, List.length_take]; rfl)) ?_; (with_reducible refine (laws_txTexts.calls k _ _ l1 t125 true _ ?side1 ?side2 A5.out).mono ?_); (case side1 => repeat (first | exact HR1.out | (with_reducible refine Kd.C_alloc ?_ _) | (with_reducible refine Kd.C_drewN ?_ _) | (with_reducible refine Kd.C_drew ?_))); (case side2 => exact HC1.out); rintro e w13 ⟨rfl, hb⟩; refine ⟨_, rfl, ?_⟩; have n0_ := Aside0.mk (below_step (by repeat (first | (with_reducible first | exact HB.out | apply below_alloc | apply pw_below_drewN | apply below_drew1) | exact HB.out)) hb); clear HB; have HB := n0_; clear n0_; (try clear hb); (try clear hb2); (try clear hk); (try clear hi)) | (go_at_call 8; (with_reducible refine (spec_TxAttribute.calls a0 true _ A7.out).mono ?_); rintro e w' ⟨rfl, ⟨nd, rfl⟩⟩) | (go_at_call 18; (with_reducible refine (impl_TextColorPrint.calls k a0 _ _ l1 t128 _ ?side1 ?side2 A9.out).mono ?_); (case side1 => repeat (first | exact (Kd.C_below HR1.out (by repeat (first | (with_reducible first | exact HB.out | apply below_alloc | apply pw_below_drewN | apply below_drew1) | exact HB.out))) | (with_reducible refine Kd.C_alloc ?_ _) | (with_reducible refine Kd.C_drewN ?_ _) | (with_reducible refine Kd.C_drew ?_))); (case side2 => exact HC1.out); rintro e w14 ⟨rfl, hb⟩; have n0_ := Aside0.mk (below_step (by repeat (first | (with_reducible first | exact HB.out | apply below_alloc | apply pw_below_drewN | apply below_drew1) | exact HB.out)) hb); clear HB; have HB := n0_; clear n0_; (try clear hb); (try clear hb2); (try clear hk); (try clear hi)) | ((with_reducible refine gate_dst (N := 27) rfl ?_); (try (refine gate_guard (by rfl) ?_; dsimp only)); refine Kd.R_lit (Kd.int .i64) _ 3 ?hg (N := 27) ?hd (xs := ([a0] : List Int)) (inner := [.int .i64 a0]) (ok := fun _ => True) (okp := fun _ => True) ?hr ?hp (fun _ hk => hk) trivial (Below.refl _ _) (Nat.le_refl _) (by simp) ?_; (case hd => rfl); (case hg => rfl); (case hr => first | (go_simp; done) | (go_simp; rfl)); (case hp => exact (Reps.one (show Kd.M (Kd.int .i64) _ _ _ a0 [.int .i64 a0] from rfl) (Reps.none _ _))); intro v130 w15 ho16 hb hg_ hnew_; clear hg_ hnew_; (first | rw [← Ny129.out] at ho16 | (simp only [Int.reduceToNat] at ho16; rw [← Ny129.out] at ho16)); have n0_ := Aside0.mk (Kd.R_lower ho16 (below_size (by repeat (first | (with_reducible first | exact HB.out | apply below_alloc | apply pw_below_drewN | apply below_drew1) | exact HB.out)))); have n1_ := Aside0.mk (below_step (by repeat (first | (with_reducible first | exact HB.out | apply below_alloc | apply pw_below_drewN | apply below_drew1) | exact HB.out)) hb); clear HB; have HO131 := n0_; have HB := n1_; clear n0_ n1_; clear hb ho16; obtain ⟨Ao17, co17, eo17⟩ := Kd.R_slice HO131.out; subst eo17) | (go_at_call 9; (with_reducible refine (spec_TxSequence.calls k _ _ y129 t132 _ ?side1 ?side2 ?side3 A10.out).mono ?_); (case side1 => exact LaidW.on hT (by repeat (first | (with_reducible first | exact HB.out | apply below_alloc | apply pw_below_drewN | apply below_drew1) | exact HB.out))); (case side2 => repeat (first | exact (Kd.R_reads' HO131.out).2.2 | (with_reducible refine Kd.C_alloc ?_ _) | (with_reducible refine Kd.C_drewN ?_ _) | (with_reducible refine Kd.C_drew ?_))); (case side3 => exact (Kd.R_reads' HO131.out).2.1); rintro e w18 ⟨rfl, hb⟩; have n0_ := Aside0.mk (Kd.R_below (by (with_reducible repeat (first | apply Kd.R_alloc | apply Kd.R_drewN | apply Kd.R_drew)); exact HO131.out) hb); have n1_ := Aside0.mk (below_step (by repeat (first | (with_reducible first | exact HB.out | apply below_alloc | apply pw_below_drewN | apply below_drew1) | exact HB.out)) hb); clear HO131; clear HB; have HO131 := n0_; have HB := n1_; clear n0_ n1_; (try clear hb); (try clear hb2); (try clear hk); (try clear hi)))
            go_ret
            exact ⟨by first | rfl | (simp [errW_none, errW_some] <;> rfl) | (simp [*, errW_none, errW_some] <;> rfl), by repeat (first | (with_reducible first | exact HB.out | apply below_alloc | apply pw_below_drewN | apply below_drew1) | exact HB.out)⟩
          · rw [if_neg c12] at H
            exact absurd H (by simp)
        · rw [if_neg c11] at H
          exact absurd H (by simp)
      · replace c8 := Bool.eq_false_iff.mpr c8
        subst c8
        have H1 : (some true) = some r := by rw [if_neg (show ¬ (false = true) by decide)] at H; exact H
        clear H
        have H := H1
        clear H1
        obtain rfl := Option.some.inj H
        go_enter Tryd.func5, Tryd.ntmps5
        go_wp2_with (first | ((with_reducible refine gate_callee (f := 13) rfl ?_); refine goesL_ (some 8) rfl rfl Tryd.func13 (by kernel_rfl) rfl #[.slice A1 l1.length c1] rfl (by (try simp only [List.map_toArray, List.map_cons, List.map_nil]); first | done | rfl | (simp only [List.length_drop, List.length_take]; rfl)) ?_; (with_reducible refine (laws_zzFits4.calls k _ _ l1 true _ ?side1 ?side2 A3.out).mono ?_); (case side1 => repeat (first | exact HR1.out | (with_reducible refine Kd.C_alloc ?_ _) | (with_reducible refine Kd.C_drewN ?_ _) | (with_reducible refine Kd.C_drew ?_))); (case side2 => exact HC1.out); rintro e w' ⟨rfl, ⟨nd, rfl⟩⟩; refine ⟨_, rfl, ?_⟩) | ((with_reducible refine gate_callee (f := 17) rfl ?_); refine goesL_ (some 12) rfl rfl Tryd.func17 (by kernel_rfl) rfl #[.slice A1 l1.length c1] rfl (by (try simp only [List.map_toArray, List.map_cons, List.map_nil]); first | done | rfl | (simp only [List.length_drop, List.length_take]; rfl)) ?_; (with_reducible refine (laws_txTexts.calls k _ _ l1 t125 true _ ?side1 ?side2 A5.out).mono ?_); (case side1 => repeat (first | exact HR1.out | (with_reducible refine Kd.C_alloc ?_ _) | (with_reducible refine Kd.C_drewN ?_ _) | (with_reducible refine Kd.C_drew ?_))); (case side2 => exact HC1.out); rintro e w19 ⟨rfl, hb⟩; refine ⟨_, rfl, ?_⟩; have n0_ := Aside0.mk (below_step (by repeat (first | (with_reducible first | exact HB.out | apply below_alloc | apply pw_below_drewN | apply below_drew1) | exact HB.out)) hb); clear HB; have HB := n0_; clear n0_; (try clear hb); (try clear hb2); (try clear hk); (try clear hi)) | (go_at_call 8; (with_reducible refine (spec_TxAttribute.calls a0 false _ A7.out).mono ?_); rintro e w' ⟨rfl, ⟨nd, rfl⟩⟩))
        go_ret
        exact ⟨by first | rfl | (simp [errW_none, errW_some] <;> rfl) | (simp [*, errW_none, errW_some] <;> rfl), by repeat (first | (with_reducible first | exact HB.out | apply below_alloc | apply pw_below_drewN | apply below_drew1) | exact HB.out)⟩
    · replace c6 := Bool.eq_false_iff.mpr c6
      subst c6
      have H1 : (some true) = some r := by rw [if_neg (show ¬ (false = true) by decide)] at H; exact H
      clear H
      have H := H1
      clear H1
      obtain rfl := Option.some.inj H
      go_enter Tryd.func5, Tryd.ntmps5
      go_wp2_with (first | ((with_reducible refine gate_callee (f := 13) rfl ?_); refine goesL_ (some 8) rfl rfl Tryd.func13 (by kernel_rfl) rfl #[.slice A1 l1.length c1] rfl (by (try simp only [List.map_toArray, List.map_cons, List.map_nil]); first | done | rfl | (simp only [List.length_drop, List.length_take]; rfl)) ?_; (with_reducible refine (laws_zzFits4.calls k _ _ l1 true _ ?side1 ?side2 A3.out).mono ?_); (case side1 => repeat (first | exact HR1.out | (with_reducible refine Kd.C_alloc ?_ _) | (with_reducible refine Kd.C_drewN ?_ _) | (with_reducible refine Kd.C_drew ?_))); (case side2 => exact HC1.out); rintro e w' ⟨rfl, ⟨nd, rfl⟩⟩; refine ⟨_, rfl, ?_⟩) | ((with_reducible refine gate_callee (f := 17) rfl ?_); refine goesL_ (some 12) rfl rfl Tryd.func17 (by kernel_rfl) rfl #[.slice A1 l1.length c1] rfl (by (try simp only [List.map_toArray, List.map_cons, List.map_nil]); first | done | rfl | (simp only [List.length_drop, List.length_take]; rfl)) ?_; (with_reducible refine (laws_txTexts.calls k _ _ l1 t125 false _ ?side1 ?side2 A5.out).mono ?_); (case side1 => repeat (first | exact HR1.out | (with_reducible refine Kd.C_alloc ?_ _) | (with_reducible refine Kd.C_drewN ?_ _) | (with_reducible refine Kd.C_drew ?_))); (case side2 => exact HC1.out); rintro e w20 ⟨rfl, hb⟩; refine ⟨_, rfl, ?_⟩; have n0_ := Aside0.mk (below_step (by repeat (first | (with_reducible first | exact HB.out | apply below_alloc | apply pw_below_drewN | apply below_drew1) | exact HB.out)) hb); clear HB; have HB := n0_; clear n0_; (try clear hb); (try clear hb2); (try clear hk); (try clear hi)))
      go_ret
      exact ⟨by first | rfl | (simp [errW_none, errW_some] <;> rfl) | (simp [*, errW_none, errW_some] <;> rfl), by repeat (first | (with_reducible first | exact HB.out | apply below_alloc | apply pw_below_drewN | apply below_drew1) | exact HB.out)⟩
  · replace c4 := Bool.eq_false_iff.mpr c4
    subst c4
    have H1 : (some true) = some r := by rw [if_neg (show ¬ (false = true) by decide)] at H; exact H
    clear H
    have H := H1
    clear H1
    obtain rfl := Option.some.inj H
    go_enter Tryd.func5, Tryd.ntmps5
    go_wp2_with (first | ((with_reducible refine gate_callee (f := 13) rfl ?_); refine goesL_ (some 8) rfl rfl Tryd.func13 (by kernel_rfl) rfl #[.slice A1 l1.length c1] rfl (by (try simp only [List.map_toArray, List.map_cons, List.map_nil]); first | done | rfl | (simp only [List.length_drop, List.length_take]; rfl)) ?_; (with_reducible refine (laws_zzFits4.calls k _ _ l1 false _ ?side1 ?side2 A3.out).mono ?_); (case side1 => repeat (first | exact HR1.out | (with_reducible refine Kd.C_alloc ?_ _) | (with_reducible refine Kd.C_drewN ?_ _) | (with_reducible refine Kd.C_drew ?_))); (case side2 => exact HC1.out); rintro e w' ⟨rfl, ⟨nd, rfl⟩⟩; refine ⟨_, rfl, ?_⟩))
    go_ret
    exact ⟨by first | rfl | (simp [errW_none, errW_some] <;> rfl) | (simp [*, errW_none, errW_some] <;> rfl), by repeat (first | (with_reducible first | exact HB.out | apply below_alloc | apply pw_below_drewN | apply below_drew1) | exact HB.out)⟩

def laws_FnTextColorPrint.Pure : Prop := ∀ (a0 : Int) (l1 : List ByteArray), (Lit.int .i64 a0).wf = true → (l1.length * 16 ≤ 140737488351232 ∧ l1.length ≤ maxLen ∧ ∀ yl1 ∈ l1, yl1.size ≤ 140737488351232) → ∃ k, laws_FnTextColorPrint.f k a0 l1 = some true

end Go.Proofs.YthepbgakfkiliaaRDoor.PFnTextColorPrint
