-- Written by hprint.py, a program of this session
import Derived.Test.YtmakcmggicedfaaDoorPFnListItemsx0
import Derived.Test.YtmakcmggicedfaaDoorPFnListItemsx1
namespace Go.Proofs.YtmakcmggicedfaaDoor.PFnListItems
open Go.RowKit Go.Proofs.YtmakcmggicedfaaDoor.Hand Go.Proofs.YtmakcmggicedfaaDoorW.PrintWords Go.Proofs.YtmakcmggicedfaaDoorW.PrintLast Go.Proofs.YtmakcmggicedfaaDoorW.PrintMore
attribute [local go_sem] max2_int min2_int max_two min_two max_three min_three max_four min_four   -- for this text's walks alone
set_option linter.unusedVariables false
set_option linter.unusedSimpArgs false

/-! ### spec_TxKnown: function 27 -/
def spec_TxKnown.f (a0 : Int) : Option (Bool) := if a0 ≥ 32 then (if a0 ≤ 126 then (some true) else ((spec_TxBoxed.f a0).bind fun t106 => (if t106 = true then (some true) else ((spec_TxWide.f a0).bind fun t107 => (some t107))))) else ((spec_TxBoxed.f a0).bind fun t108 => (if t108 = true then (some true) else ((spec_TxWide.f a0).bind fun t109 => (some t109))))
set_option maxHeartbeats 8000000 in
set_option maxRecDepth 100000 in
theorem spec_TxKnown.calls (a0 : Int) (r : Bool) (w : World) (h : spec_TxKnown.f a0 = some r) :
    Calls Tryd.prog 27 #[.int .i32 a0] w fun e w' => e = .returned (.bool r) ∧ Drawn0 w w' := by
  have H : (if a0 ≥ 32 then (if a0 ≤ 126 then (some true) else ((spec_TxBoxed.f a0).bind fun t106 => (if t106 = true then (some true) else ((spec_TxWide.f a0).bind fun t107 => (some t107))))) else ((spec_TxBoxed.f a0).bind fun t108 => (if t108 = true then (some true) else ((spec_TxWide.f a0).bind fun t109 => (some t109))))) = some r := h
  clear h
  by_cases c2 : a0 ≥ 32
  · rw [if_pos c2] at H
    have c2b0 : decide (32 ≤ a0) = true := decide_eq_true c2
    clear c2
    by_cases c3 : a0 ≤ 126
    · rw [if_pos c3] at H
      have c3b0 : decide (a0 ≤ 126) = true := decide_eq_true c3
      clear c3
      obtain rfl := Option.some.inj H
      go_enter Tryd.func27, Tryd.ntmps27
      go_wp2
      go_ret
      exact ⟨by first | rfl | (simp; done) | (simp [*]; done), by repeat (first | exact Drawn0.refl _ | apply Drawn0.step)⟩
    · rw [if_neg c3] at H
      have c3b0 : decide (a0 ≤ 126) = false := decide_eq_false c3
      clear c3
      replace H := Option.bind_eq_some_iff.mp H
      obtain ⟨t106, A40, H⟩ := H
      replace H : (if t106 = true then (some true) else ((spec_TxWide.f a0).bind fun t107 => (some t107))) = some r := H
      have A4 := Aside0.mk A40
      clear A40
      by_cases c5 : t106 = true
      · subst c5
        have H1 : (some true) = some r := by rw [if_pos rfl] at H; exact H
        clear H
        have H := H1
        clear H1
        obtain rfl := Option.some.inj H
        go_enter Tryd.func27, Tryd.ntmps27
        go_wp2_with (first | (go_at_call 52; (with_reducible refine (spec_TxBoxed.calls a0 true _ A4.out).mono ?_); rintro e w' ⟨rfl, ⟨nd, rfl⟩⟩))
        go_ret
        exact ⟨by first | rfl | (simp; done) | (simp [*]; done), by repeat (first | exact Drawn0.refl _ | apply Drawn0.step)⟩
      · replace c5 := Bool.eq_false_iff.mpr c5
        subst c5
        have H1 : ((spec_TxWide.f a0).bind fun t107 => (some t107)) = some r := by rw [if_neg (show ¬ (false = true) by decide)] at H; exact H
        clear H
        have H := H1
        clear H1
        replace H := Option.bind_eq_some_iff.mp H
        obtain ⟨t107, A60, H⟩ := H
        replace H : (some t107) = some r := H
        have A6 := Aside0.mk A60
        clear A60
        obtain rfl := Option.some.inj H
        go_enter Tryd.func27, Tryd.ntmps27
        go_wp2_with (first | (go_at_call 52; (with_reducible refine (spec_TxBoxed.calls a0 false _ A4.out).mono ?_); rintro e w' ⟨rfl, ⟨nd, rfl⟩⟩) | (go_at_call 22; (with_reducible refine (spec_TxWide.calls a0 t107 _ A6.out).mono ?_); rintro e w' ⟨rfl, ⟨nd, rfl⟩⟩))
        go_ret
        exact ⟨by first | rfl | (simp; done) | (simp [*]; done), by repeat (first | exact Drawn0.refl _ | apply Drawn0.step)⟩
  · rw [if_neg c2] at H
    have c2b0 : decide (32 ≤ a0) = false := decide_eq_false c2
    clear c2
    replace H := Option.bind_eq_some_iff.mp H
    obtain ⟨t108, A70, H⟩ := H
    replace H : (if t108 = true then (some true) else ((spec_TxWide.f a0).bind fun t109 => (some t109))) = some r := H
    have A7 := Aside0.mk A70
    clear A70
    by_cases c8 : t108 = true
    · subst c8
      have H1 : (some true) = some r := by rw [if_pos rfl] at H; exact H
      clear H
      have H := H1
      clear H1
      obtain rfl := Option.some.inj H
      go_enter Tryd.func27, Tryd.ntmps27
      go_wp2_with (first | (go_at_call 52; (with_reducible refine (spec_TxBoxed.calls a0 true _ A7.out).mono ?_); rintro e w' ⟨rfl, ⟨nd, rfl⟩⟩))
      go_ret
      exact ⟨by first | rfl | (simp; done) | (simp [*]; done), by repeat (first | exact Drawn0.refl _ | apply Drawn0.step)⟩
    · replace c8 := Bool.eq_false_iff.mpr c8
      subst c8
      have H1 : ((spec_TxWide.f a0).bind fun t109 => (some t109)) = some r := by rw [if_neg (show ¬ (false = true) by decide)] at H; exact H
      clear H
      have H := H1
      clear H1
      replace H := Option.bind_eq_some_iff.mp H
      obtain ⟨t109, A90, H⟩ := H
      replace H : (some t109) = some r := H
      have A9 := Aside0.mk A90
      clear A90
      obtain rfl := Option.some.inj H
      go_enter Tryd.func27, Tryd.ntmps27
      go_wp2_with (first | (go_at_call 52; (with_reducible refine (spec_TxBoxed.calls a0 false _ A7.out).mono ?_); rintro e w' ⟨rfl, ⟨nd, rfl⟩⟩) | (go_at_call 22; (with_reducible refine (spec_TxWide.calls a0 t109 _ A9.out).mono ?_); rintro e w' ⟨rfl, ⟨nd, rfl⟩⟩))
      go_ret
      exact ⟨by first | rfl | (simp; done) | (simp [*]; done), by repeat (first | exact Drawn0.refl _ | apply Drawn0.step)⟩

/-! ### spec_TxSimple: function 14 -/
def spec_TxSimple.l0 : Nat → Bool → Int → ByteArray → Option (Bool)
  | 0, _, _, _ => none
  | k + 1, x1, x111000, x111001 => if It.itK x111000 < (x111001.size : Int) then ((spec_TxKnown.f (It.itR x111001 x111000)).bind fun t111 => (if t111 = true then (spec_TxSimple.l0 k x1 (It.itP x111001 x111000) x111001) else (if x1 = true then (if ((It.itR x111001 x111000) = 10) then (spec_TxSimple.l0 k x1 (It.itP x111001 x111000) x111001) else (some false)) else (some false)))) else (some true)
def spec_TxSimple.f (k : Nat) (a0 : ByteArray) (a1 : Bool) : Option (Bool) := spec_TxSimple.l0 k a1 0 a0
theorem spec_TxSimple.mono_l : ∀ k, (∀ y0 y1 y2, LeO (spec_TxSimple.l0 k y0 y1 y2) (spec_TxSimple.l0 (k + 1) y0 y1 y2))
  | 0 => fun _ _ _ r h => by simp [spec_TxSimple.l0] at h
  | k + 1 => by
    have ih0 := spec_TxSimple.mono_l k
    · intro y0 y1 y2
      unfold spec_TxSimple.l0
      repeat' first
      | (with_reducible exact ih0 _ _ _)
      | (with_reducible exact LeO.refl _)
      | (with_reducible exact LeO.none _)
      | (with_reducible refine LeO.ite ?_ ?_)
      | (with_reducible refine LeO.bind ?_ (fun _ => ?_))
      | exact ih0 _ _ _
      | exact LeO.none _
      | refine LeO.ite ?_ ?_
      | refine LeO.bind ?_ (fun _ => ?_)
theorem spec_TxSimple.mono : ∀ a0 a1 k, LeO (spec_TxSimple.f k a0 a1) (spec_TxSimple.f (k + 1) a0 a1) := by
  intro a0 a1 k
  have ih0 := spec_TxSimple.mono_l k
  unfold spec_TxSimple.f
  repeat' first
      | (with_reducible exact ih0 _ _ _)
      | (with_reducible exact LeO.refl _)
      | (with_reducible exact LeO.none _)
      | (with_reducible refine LeO.ite ?_ ?_)
      | (with_reducible refine LeO.bind ?_ (fun _ => ?_))
      | exact ih0 _ _ _
      | exact LeO.none _
      | refine LeO.ite ?_ ?_
      | refine LeO.bind ?_ (fun _ => ?_)
set_option maxHeartbeats 8000000 in
set_option maxRecDepth 100000 in
theorem spec_TxSimple.calls (k : Nat) (a0 : ByteArray) (a1 : Bool) (r : Bool) (w : World) (h : spec_TxSimple.f k a0 a1 = some r) :
    Calls Tryd.prog 14 #[.string a0, .bool a1] w fun e w' => e = .returned (.bool r) ∧ Below w.heap.size w w' := by
  have HB := Aside0.mk (Below.refl w.heap.size w)
  have H : (spec_TxSimple.l0 k a1 0 a0) = some r := h
  clear h
  have H' := Aside0.mk H
  clear H
  go_enter Tryd.func14, Tryd.ntmps14
  go_wp2_with (first | ((with_reducible refine gate_dst (N := 8) rfl ?_); refine It.range_event ?hg (N := 8) ?hd (s := a0) rfl Tryd.underlying9 ?hr ?_; (case hd => rfl); (case hg => rfl); (case hr => first | rfl | (go_simp; done) | (go_simp; rfl)); intro gb110 hg w3 hbox hb; have n0_ := Aside0.mk (below_step (by repeat (first | (with_reducible first | exact HB.out | apply below_alloc | apply pw_below_drewN | apply below_drew1) | exact HB.out)) hb); have n1_ := Aside0.mk (hbox); have n2_ := Aside0.mk ((by rw [hg]; exact (below_size (by repeat (first | (with_reducible first | exact HB.out | apply below_alloc | apply pw_below_drewN | apply below_drew1) | exact HB.out))) : w.heap.size ≤ gb110)); have n3_ := Aside0.mk ((by rw [hg]; exact (below_size (by repeat (first | (with_reducible first | exact HB.out | apply below_alloc | apply pw_below_drewN | apply below_drew1) | exact HB.out))) : w.heap.size ≤ gb110)); clear HB; have HB := n0_; have BK110 := n1_; have GW110 := n2_; have GE110 := n3_; clear n0_ n1_ n2_ n3_; clear hb hbox hg))
  (try simp only [Act.put, List.setIfInBounds_toArray, List.set_cons_zero, List.set_cons_succ])
  go_loopg [] k (fun kq w' => ∃ (x111000_1 : Int), Aside0 (spec_TxSimple.l0 kq a1 x111000_1 a0 = some r) ∧ Aside0 (kq ≤ k) ∧ Aside0 (w'.heap[gb110]? = some (.stringIter a0 (x111000_1 : Int).toNat)) ∧ Aside0 (Below w.heap.size w w'))
  case atStart => exact ⟨(0), H', ⟨Nat.le_refl _⟩, ⟨by (with_reducible repeat (first | refine blk_drewN ?_ _ | refine blk_drew ?_ | refine blk_alloc ?_ _)); exact BK110.out⟩, ⟨by repeat (first | (with_reducible first | exact HB.out | apply below_alloc | apply pw_below_drewN | apply below_drew1 | refine below_set ?_ GE110.out) | exact HB.out)⟩⟩
  case round =>
    clear H'
    try clear c1
    try clear p2
    obtain ⟨x111000_1, HA, HK1, BK110, HB⟩ := hrel
    cases gk with
    | zero => exact absurd HA.out (by simp [spec_TxSimple.l0])
    | succ k1 =>
      have H := HA.out
      clear HA
      simp only [spec_TxSimple.l0] at H
      by_cases c4 : It.itK x111000_1 < (a0.size : Int)
      · rw [if_pos c4] at H
        have c4b0 : decide (It.itK x111000_1 < (a0.size : Int)) = true := decide_eq_true c4
        clear c4
        replace H := Option.bind_eq_some_iff.mp H
        obtain ⟨t111, A50, H⟩ := H
        replace H : (if t111 = true then (spec_TxSimple.l0 k1 a1 (It.itP a0 x111000_1) a0) else (if a1 = true then (if ((It.itR a0 x111000_1) = 10) then (spec_TxSimple.l0 k1 a1 (It.itP a0 x111000_1) a0) else (some false)) else (some false))) = some r := H
        have A5 := Aside0.mk A50
        clear A50
        by_cases c6 : t111 = true
        · subst c6
          have H1 : (spec_TxSimple.l0 k1 a1 (It.itP a0 x111000_1) a0) = some r := by rw [if_pos rfl] at H; exact H
          clear H
          have H := H1
          clear H1
          have H' := Aside0.mk H
          clear H
          go_wp2_with (first | ((with_reducible refine gate_dst (N := 9) rfl ?_); refine It.next_yes ?hg (N := 9) ?hd (g := gb110) (s := a0) (pos := x111000_1) rfl ?hr (by (with_reducible repeat (first | refine blk_drewN ?_ _ | refine blk_drew ?_ | refine blk_alloc ?_ _)); exact BK110.out) (of_decide_eq_true (by first | (with_reducible assumption) | assumption)) ?_; (case hd => rfl); (case hg => rfl); (case hr => first | rfl | (go_simp; done) | (go_simp; rfl)); intro w7 hg_ hbox; have n0_ := Aside0.mk (hbox); have n1_ := Aside0.mk (It.below_iter (by repeat (first | (with_reducible first | exact HB.out | apply below_alloc | apply pw_below_drewN | apply below_drew1 | refine below_set ?_ GE110.out) | exact HB.out)) (below_size (by repeat (first | (with_reducible first | exact HB.out | apply below_alloc | apply pw_below_drewN | apply below_drew1 | refine below_set ?_ GE110.out) | exact HB.out))) hg_ GE110.out); clear BK110; clear HB; have BK110 := n0_; have HB := n1_; clear n0_ n1_; clear hg_ hbox) | ((with_reducible refine gate_callee (f := 27) rfl ?_); refine goesL_ (some 13) rfl rfl Tryd.func27 (by kernel_rfl) rfl #[.int .i32 (It.itR a0 x111000_1)] rfl (by (try simp only [List.map_toArray, List.map_cons, List.map_nil]); first | done | rfl | (simp only [List.length_drop, List.length_take]; rfl)) ?_; (with_reducible refine (spec_TxKnown.calls (It.itR a0 x111000_1) true _ A5.out).mono ?_); rintro e w' ⟨rfl, ⟨nd, rfl⟩⟩; refine ⟨_, rfl, ?_⟩))
          go_roundg k1
          case measure => have := HK1.out; omega
          case rel => exact ⟨(It.itP a0 x111000_1), H', ⟨by have := HK1.out; omega⟩, ⟨by (with_reducible repeat (first | refine blk_drewN ?_ _ | refine blk_drew ?_ | refine blk_alloc ?_ _)); exact BK110.out⟩, ⟨by repeat (first | (with_reducible first | exact HB.out | apply below_alloc | apply pw_below_drewN | apply below_drew1 | refine below_set ?_ GE110.out) | exact HB.out)⟩⟩
        · replace c6 := Bool.eq_false_iff.mpr c6
          subst c6
          have H1 : (if a1 = true then (if ((It.itR a0 x111000_1) = 10) then (spec_TxSimple.l0 k1 a1 (It.itP a0 x111000_1) a0) else (some false)) else (some false)) = some r := by rw [if_neg (show ¬ (false = true) by decide)] at H; exact H
          clear H
          have H := H1
          clear H1
          by_cases c8 : a1 = true
          · subst c8
            have H1 : (if ((It.itR a0 x111000_1) = 10) then (spec_TxSimple.l0 k1 true (It.itP a0 x111000_1) a0) else (some false)) = some r := by rw [if_pos rfl] at H; exact H
            clear H
            have H := H1
            clear H1
            by_cases c9 : ((It.itR a0 x111000_1) = 10)
            · rw [if_pos c9] at H
              have c9b0 : ((It.itR a0 x111000_1) == 10) = true := beq_iff_eq.mpr c9
              have c9b1 : ((It.itR a0 x111000_1) != 10) = false := bne_eq_false_iff_eq.mpr c9
              clear c9
              have H' := Aside0.mk H
              clear H
              go_wp2_with (first | ((with_reducible refine gate_dst (N := 9) rfl ?_); refine It.next_yes ?hg (N := 9) ?hd (g := gb110) (s := a0) (pos := x111000_1) rfl ?hr (by (with_reducible repeat (first | refine blk_drewN ?_ _ | refine blk_drew ?_ | refine blk_alloc ?_ _)); exact BK110.out) (of_decide_eq_true (by first | (with_reducible assumption) | assumption)) ?_; (case hd => rfl); (case hg => rfl); (case hr => first | rfl | (go_simp; done) | (go_simp; rfl)); intro w10 hg_ hbox; have n0_ := Aside0.mk (hbox); have n1_ := Aside0.mk (It.below_iter (by repeat (first | (with_reducible first | exact HB.out | apply below_alloc | apply pw_below_drewN | apply below_drew1 | refine below_set ?_ GE110.out) | exact HB.out)) (below_size (by repeat (first | (with_reducible first | exact HB.out | apply below_alloc | apply pw_below_drewN | apply below_drew1 | refine below_set ?_ GE110.out) | exact HB.out))) hg_ GE110.out); clear BK110; clear HB; have BK110 := n0_; have HB := n1_; clear n0_ n1_; clear hg_ hbox) | ((with_reducible refine gate_callee (f := 27) rfl ?_); refine goesL_ (some 13) rfl rfl Tryd.func27 (by kernel_rfl) rfl #[.int .i32 (It.itR a0 x111000_1)] rfl (by (try simp only [List.map_toArray, List.map_cons, List.map_nil]); first | done | rfl | (simp only [List.length_drop, List.length_take]; rfl)) ?_; (with_reducible refine (spec_TxKnown.calls (It.itR a0 x111000_1) false _ A5.out).mono ?_); rintro e w' ⟨rfl, ⟨nd, rfl⟩⟩; refine ⟨_, rfl, ?_⟩))
              go_roundg k1
              case measure => have := HK1.out; omega
              case rel => exact ⟨(It.itP a0 x111000_1), H', ⟨by have := HK1.out; omega⟩, ⟨by (with_reducible repeat (first | refine blk_drewN ?_ _ | refine blk_drew ?_ | refine blk_alloc ?_ _)); exact BK110.out⟩, ⟨by repeat (first | (with_reducible first | exact HB.out | apply below_alloc | apply pw_below_drewN | apply below_drew1 | refine below_set ?_ GE110.out) | exact HB.out)⟩⟩
            · rw [if_neg c9] at H
              have c9b0 : ((It.itR a0 x111000_1) == 10) = false := beq_eq_false_iff_ne.mpr c9
              have c9b1 : ((It.itR a0 x111000_1) != 10) = true := bne_iff_ne.mpr c9
              obtain rfl := Option.some.inj H
              go_wp2_with (first | ((with_reducible refine gate_dst (N := 9) rfl ?_); refine It.next_yes ?hg (N := 9) ?hd (g := gb110) (s := a0) (pos := x111000_1) rfl ?hr (by (with_reducible repeat (first | refine blk_drewN ?_ _ | refine blk_drew ?_ | refine blk_alloc ?_ _)); exact BK110.out) (of_decide_eq_true (by first | (with_reducible assumption) | assumption)) ?_; (case hd => rfl); (case hg => rfl); (case hr => first | rfl | (go_simp; done) | (go_simp; rfl)); intro w11 hg_ hbox; have n0_ := Aside0.mk (hbox); have n1_ := Aside0.mk (It.below_iter (by repeat (first | (with_reducible first | exact HB.out | apply below_alloc | apply pw_below_drewN | apply below_drew1 | refine below_set ?_ GE110.out) | exact HB.out)) (below_size (by repeat (first | (with_reducible first | exact HB.out | apply below_alloc | apply pw_below_drewN | apply below_drew1 | refine below_set ?_ GE110.out) | exact HB.out))) hg_ GE110.out); clear BK110; clear HB; have BK110 := n0_; have HB := n1_; clear n0_ n1_; clear hg_ hbox) | ((with_reducible refine gate_callee (f := 27) rfl ?_); refine goesL_ (some 13) rfl rfl Tryd.func27 (by kernel_rfl) rfl #[.int .i32 (It.itR a0 x111000_1)] rfl (by (try simp only [List.map_toArray, List.map_cons, List.map_nil]); first | done | rfl | (simp only [List.length_drop, List.length_take]; rfl)) ?_; (with_reducible refine (spec_TxKnown.calls (It.itR a0 x111000_1) false _ A5.out).mono ?_); rintro e w' ⟨rfl, ⟨nd, rfl⟩⟩; refine ⟨_, rfl, ?_⟩))
              go_ret
              exact ⟨by first | rfl | (simp [errW_none, errW_some] <;> rfl) | (simp [*, errW_none, errW_some] <;> rfl), by repeat (first | (with_reducible first | exact HB.out | apply below_alloc | apply pw_below_drewN | apply below_drew1 | refine below_set ?_ GE110.out) | exact HB.out)⟩
          · replace c8 := Bool.eq_false_iff.mpr c8
            subst c8
            have H1 : (some false) = some r := by rw [if_neg (show ¬ (false = true) by decide)] at H; exact H
            clear H
            have H := H1
            clear H1
            obtain rfl := Option.some.inj H
            go_wp2_with (first | ((with_reducible refine gate_dst (N := 9) rfl ?_); refine It.next_yes ?hg (N := 9) ?hd (g := gb110) (s := a0) (pos := x111000_1) rfl ?hr (by (with_reducible repeat (first | refine blk_drewN ?_ _ | refine blk_drew ?_ | refine blk_alloc ?_ _)); exact BK110.out) (of_decide_eq_true (by first | (with_reducible assumption) | assumption)) ?_; (case hd => rfl); (case hg => rfl); (case hr => first | rfl | (go_simp; done) | (go_simp; rfl)); intro w12 hg_ hbox; have n0_ := Aside0.mk (hbox); have n1_ := Aside0.mk (It.below_iter (by repeat (first | (with_reducible first | exact HB.out | apply below_alloc | apply pw_below_drewN | apply below_drew1 | refine below_set ?_ GE110.out) | exact HB.out)) (below_size (by repeat (first | (with_reducible first | exact HB.out | apply below_alloc | apply pw_below_drewN | apply below_drew1 | refine below_set ?_ GE110.out) | exact HB.out))) hg_ GE110.out); clear BK110; clear HB; have BK110 := n0_; have HB := n1_; clear n0_ n1_; clear hg_ hbox) | ((with_reducible refine gate_callee (f := 27) rfl ?_); refine goesL_ (some 13) rfl rfl Tryd.func27 (by kernel_rfl) rfl #[.int .i32 (It.itR a0 x111000_1)] rfl (by (try simp only [List.map_toArray, List.map_cons, List.map_nil]); first | done | rfl | (simp only [List.length_drop, List.length_take]; rfl)) ?_; (with_reducible refine (spec_TxKnown.calls (It.itR a0 x111000_1) false _ A5.out).mono ?_); rintro e w' ⟨rfl, ⟨nd, rfl⟩⟩; refine ⟨_, rfl, ?_⟩))
            go_ret
            exact ⟨by first | rfl | (simp [errW_none, errW_some] <;> rfl) | (simp [*, errW_none, errW_some] <;> rfl), by repeat (first | (with_reducible first | exact HB.out | apply below_alloc | apply pw_below_drewN | apply below_drew1 | refine below_set ?_ GE110.out) | exact HB.out)⟩
      · rw [if_neg c4] at H
        have c4b0 : decide (It.itK x111000_1 < (a0.size : Int)) = false := decide_eq_false c4
        clear c4
        obtain rfl := Option.some.inj H
        go_wp2_with (first | ((with_reducible refine gate_dst (N := 9) rfl ?_); refine It.next_no ?hg (N := 9) ?hd (g := gb110) (s := a0) (pos := x111000_1) rfl ?hr (by (with_reducible repeat (first | refine blk_drewN ?_ _ | refine blk_drew ?_ | refine blk_alloc ?_ _)); exact BK110.out) (of_decide_eq_false (by first | (with_reducible assumption) | assumption)) ?_; (case hd => rfl); (case hg => rfl); (case hr => first | rfl | (go_simp; done) | (go_simp; rfl))))
        go_ret
        exact ⟨by first | rfl | (simp [errW_none, errW_some] <;> rfl) | (simp [*, errW_none, errW_some] <;> rfl), by repeat (first | (with_reducible first | exact HB.out | apply below_alloc | apply pw_below_drewN | apply below_drew1 | refine below_set ?_ GE110.out) | exact HB.out)⟩

/-! ### spec_LsRight: function 8 -/
def spec_LsRight.l0 : Nat → List (S33) → List (S33) → Int → Int → Option (Bool)
  | 0, _, _, _, _ => none
  | k + 1, x0, x6, x7, x8 => if x8 < x7 then (if 0 ≤ x8 then (if x8 < (x6.length : Int) then (if x8 > 0 then (if 0 ≤ (wrap64 (x8 - 1)) then (if (wrap64 (x8 - 1)) < (x0.length : Int) then (if ((rd_T33 x6 x8).f1) < 0 then (some false) else (if ((rd_T33 x6 x8).f1) > (wrap64 (((rd_T33 x0 (wrap64 (x8 - 1))).f1) + 1)) then (some false) else (if (((rd_T33 x6 x8).f0).size : Int) > 200 then (some false) else ((spec_TxSimple.f k ((rd_T33 x6 x8).f0) false).bind fun t115 => (if t115 = true then (spec_LsRight.l0 k x0 x6 x7 (wrap64 (x8 + 1))) else (some false)))))) else (none)) else (none)) else (if ((rd_T33 x6 x8).f1) < 0 then (some false) else (if ((rd_T33 x6 x8).f1) > 0 then (some false) else (if (((rd_T33 x6 x8).f0).size : Int) > 200 then (some false) else ((spec_TxSimple.f k ((rd_T33 x6 x8).f0) false).bind fun t116 => (if t116 = true then (spec_LsRight.l0 k x0 x6 x7 (wrap64 (x8 + 1))) else (some false))))))) else (none)) else (none)) else (some (decide ((x0.length : Int) ≤ 60)))
def spec_LsRight.f (k : Nat) (l0 : List (S33)) : Option (Bool) := spec_LsRight.l0 k l0 l0 (l0.length : Int) 0
theorem spec_LsRight.mono_l : ∀ k, (∀ y0 y1 y2 y3, LeO (spec_LsRight.l0 k y0 y1 y2 y3) (spec_LsRight.l0 (k + 1) y0 y1 y2 y3))
  | 0 => fun _ _ _ _ r h => by simp [spec_LsRight.l0] at h
  | k + 1 => by
    have ih0 := spec_LsRight.mono_l k
    · intro y0 y1 y2 y3
      unfold spec_LsRight.l0
      repeat' first
      | (with_reducible exact ih0 _ _ _ _)
      | (with_reducible exact spec_TxSimple.mono _ _ _)
      | (with_reducible exact LeO.refl _)
      | (with_reducible exact LeO.none _)
      | (with_reducible refine LeO.ite ?_ ?_)
      | (with_reducible refine LeO.bind ?_ (fun _ => ?_))
      | exact ih0 _ _ _ _
      | exact spec_TxSimple.mono _ _ _
      | exact LeO.none _
      | refine LeO.ite ?_ ?_
      | refine LeO.bind ?_ (fun _ => ?_)
theorem spec_LsRight.mono : ∀ a0 k, LeO (spec_LsRight.f k a0) (spec_LsRight.f (k + 1) a0) := by
  intro a0 k
  have ih0 := spec_LsRight.mono_l k
  unfold spec_LsRight.f
  repeat' first
      | (with_reducible exact ih0 _ _ _ _)
      | (with_reducible exact spec_TxSimple.mono _ _ _)
      | (with_reducible exact LeO.refl _)
      | (with_reducible exact LeO.none _)
      | (with_reducible refine LeO.ite ?_ ?_)
      | (with_reducible refine LeO.bind ?_ (fun _ => ?_))
      | exact ih0 _ _ _ _
      | exact spec_TxSimple.mono _ _ _
      | exact LeO.none _
      | refine LeO.ite ?_ ?_
      | refine LeO.bind ?_ (fun _ => ?_)
set_option maxHeartbeats 8000000 in
set_option maxRecDepth 100000 in
theorem spec_LsRight.calls (k : Nat) (A0 : Option Addr) (c0 : Nat) (l0 : List (S33)) (r : Bool) (w : World) (hr0 : Kd.C k33 w A0 l0.length l0) (hc0 : l0.length ≤ c0) (h : spec_LsRight.f k l0 = some r) :
    Calls Tryd.prog 8 #[.slice A0 l0.length c0] w fun e w' => e = .returned (.bool r) ∧ Below w.heap.size w w' := by
  have hu33 := Tryd.underlying33
  have HR0 := Aside0.mk hr0
  have HC0 := Aside0.mk hc0
  clear hr0 hc0
  have HB := Aside0.mk (Below.refl w.heap.size w)
  have H : (spec_LsRight.l0 k l0 l0 (l0.length : Int) 0) = some r := h
  clear h
  have H' := Aside0.mk H
  clear H
  go_enter Tryd.func8, Tryd.ntmps8
  go_wp2
  go_loopg [8] k (fun kq v8 w' => ∃ (x8_1 : Int), v8 = .int .i64 x8_1 ∧ Aside0 (spec_LsRight.l0 kq l0 l0 (l0.length : Int) x8_1 = some r) ∧ Aside0 (kq ≤ k) ∧ Aside0 (Below w.heap.size w w'))
  case atStart => exact ⟨(0), (by first | rfl | (simp; done) | (simp [*]; done)), H', ⟨Nat.le_refl _⟩, ⟨by repeat (first | (with_reducible first | exact HB.out | apply below_alloc | apply pw_below_drewN | apply below_drew1) | exact HB.out)⟩⟩
  case round =>
    clear H'
    obtain ⟨x8_1, rfl, HA, HK1, HB⟩ := hrel
    cases gk with
    | zero => exact absurd HA.out (by simp [spec_LsRight.l0])
    | succ k1 =>
      have H := HA.out
      clear HA
      simp only [spec_LsRight.l0] at H
      by_cases c2 : x8_1 < (l0.length : Int)
      · rw [if_pos c2] at H
        have c2b0 : decide (x8_1 < (l0.length : Int)) = true := decide_eq_true c2
        clear c2
        by_cases c3 : 0 ≤ x8_1
        · rw [if_pos c3] at H
          have c3b0 : decide (0 ≤ x8_1) = true := decide_eq_true c3
          clear c3
          by_cases c4 : x8_1 < (l0.length : Int)
          · rw [if_pos c4] at H
            have c4b0 : decide (x8_1 < (l0.length : Int)) = true := decide_eq_true c4
            clear c4
            by_cases c5 : x8_1 > 0
            · rw [if_pos c5] at H
              have c5b0 : decide (0 < x8_1) = true := decide_eq_true c5
              clear c5
              obtain ⟨ji6, hji6⟩ : ∃ j_ : Int, (wrap64 (x8_1 - 1)) = j_ := ⟨_, rfl⟩
              replace H : (if 0 ≤ (ji6) then (if (ji6) < (l0.length : Int) then (if ((rd_T33 l0 x8_1).f1) < 0 then (some false) else (if ((rd_T33 l0 x8_1).f1) > (wrap64 (((rd_T33 l0 (ji6)).f1) + 1)) then (some false) else (if (((rd_T33 l0 x8_1).f0).size : Int) > 200 then (some false) else ((spec_TxSimple.f k1 ((rd_T33 l0 x8_1).f0) false).bind fun t115 => (if t115 = true then (spec_LsRight.l0 k1 l0 l0 (l0.length : Int) (wrap64 (x8_1 + 1))) else (some false)))))) else (none)) else (none)) = some r := by first | (rw [hji6] at H; exact H) | (simp only [hji6] at H ⊢; exact H)
              have hji6w : (IntKind.i64.wrap (x8_1 - 1)) = ji6 := (i64_w _).trans hji6
              by_cases c7 : 0 ≤ (ji6)
              · rw [if_pos c7] at H
                have c7b0 : decide (0 ≤ (ji6)) = true := decide_eq_true c7
                clear c7
                by_cases c8 : (ji6) < (l0.length : Int)
                · rw [if_pos c8] at H
                  have c8b0 : decide ((ji6) < (l0.length : Int)) = true := decide_eq_true c8
                  clear c8
                  by_cases c9 : ((rd_T33 l0 x8_1).f1) < 0
                  · rw [if_pos c9] at H
                    have c9b0 : decide (((rd_T33 l0 x8_1).f1) < 0) = true := decide_eq_true c9
                    clear c9
                    obtain rfl := Option.some.inj H
                    have p112 : 0 ≤ (x8_1 : Int) := of_decide_eq_true (by first | (with_reducible assumption) | assumption)
                    have q112 : x8_1 < (l0.length : Int) := of_decide_eq_true (by first | (with_reducible assumption) | assumption)
                    obtain ⟨ad112, e112, hx112_0, hx112_1⟩ := at_T33 HR0.out x8_1 p112 q112
                    cases e112
                    replace hx112_0 := (HB.out.cell (World.block_lt_of_cell? w _ hx112_0)).trans hx112_0
                    replace hx112_1 := (HB.out.cell (World.block_lt_of_cell? w _ hx112_1)).trans hx112_1
                    (try simp only [Go.IntWalk.toNatUp] at hx112_0)
                    (try simp only [Go.IntWalk.toNatUp] at hx112_1)
                    replace p112 := eq_true p112
                    replace q112 := eq_true q112
                    go_wp2_with (first | ((with_reducible refine gate_dst (N := 4) rfl ?_); (try (refine gate_guard (by rfl) ?_; dsimp only)); refine box_event ?hg (N := 4) ?hd (cs := #[.string (⟨#[]⟩ : ByteArray), .int .i64 0]) (t := 33) ?hr ?_; (case hd => rfl); (case hg => rfl); (case hr => first | (go_simp; done) | (go_simp; rfl)); intro gb113 hg w10 hbox hb; have n0_ := Aside0.mk (below_step (by repeat (first | (with_reducible first | exact HB.out | apply below_alloc | apply pw_below_drewN | apply below_drew1) | exact HB.out)) hb); have n1_ := Aside0.mk (hbox); have n2_ := Aside0.mk ((by rw [hg]; exact (below_size (by repeat (first | (with_reducible first | exact HB.out | apply below_alloc | apply pw_below_drewN | apply below_drew1) | exact HB.out))) : w.heap.size ≤ gb113)); have n3_ := Aside0.mk ((by rw [hg]; exact (below_size (by repeat (first | (with_reducible first | exact HB.out | apply below_alloc | apply pw_below_drewN | apply below_drew1) | exact HB.out))) : w.heap.size ≤ gb113)); clear HB; have HB := n0_; have BK113 := n1_; have GW113 := n2_; have GE113 := n3_; clear n0_ n1_ n2_ n3_; clear hb hbox hg; have hcz11_0 : w10.cell? ⟨gb113, 0, none⟩ = some (.string (⟨#[]⟩ : ByteArray)) := (blk_cell BK113.out 0).trans rfl; have hcz11_1 : w10.cell? ⟨gb113, 1, none⟩ = some (.int .i64 0) := (blk_cell BK113.out 1).trans rfl; have hfz11_0 := blk_frozen BK113.out 0; have hfz11_1 := blk_frozen BK113.out 1; have p114 : 0 ≤ ((ji6) : Int) := of_decide_eq_true (by first | (with_reducible assumption) | assumption); have q114 : (ji6) < (l0.length : Int) := of_decide_eq_true (by first | (with_reducible assumption) | assumption); obtain ⟨ad114, e114, hx114_0, hx114_1⟩ := at_T33 HR0.out (ji6) p114 q114; obtain rfl : ad112 = ad114 := (by injection e114); have hn114_0 : ad112.block ≠ gb113 := Nat.ne_of_lt (Nat.lt_of_lt_of_le (by have := World.block_lt_of_cell? _ _ hx114_0; first | rwa [add_block] at this | exact this) GW113.out); have hn114_1 : ad112.block ≠ gb113 := Nat.ne_of_lt (Nat.lt_of_lt_of_le (by have := World.block_lt_of_cell? _ _ hx114_0; first | rwa [add_block] at this | exact this) GW113.out); replace hx114_0 := (HB.out.cell (World.block_lt_of_cell? w _ hx114_0)).trans hx114_0; replace hx114_1 := (HB.out.cell (World.block_lt_of_cell? w _ hx114_1)).trans hx114_1; replace hx114_0 := (cell_far (p := ⟨gb113, 0, none⟩) (by first | (rw [add_block]; exact hn114_0) | (show (Addr.add _ _).block ≠ _; rw [add_block]; exact hn114_0) | exact hn114_0) (.string ((rd_T33 l0 x8_1).f0))).trans hx114_0; replace hx114_1 := (cell_far (p := ⟨gb113, 0, none⟩) (by first | (rw [add_block]; exact hn114_0) | (show (Addr.add _ _).block ≠ _; rw [add_block]; exact hn114_0) | exact hn114_0) (.string ((rd_T33 l0 x8_1).f0))).trans hx114_1; replace hx114_0 := (cell_far (p := ⟨gb113, 1, none⟩) (by first | (rw [add_block]; exact hn114_1) | (show (Addr.add _ _).block ≠ _; rw [add_block]; exact hn114_1) | exact hn114_1) (.int .i64 ((rd_T33 l0 x8_1).f1))).trans hx114_0; replace hx114_1 := (cell_far (p := ⟨gb113, 1, none⟩) (by first | (rw [add_block]; exact hn114_1) | (show (Addr.add _ _).block ≠ _; rw [add_block]; exact hn114_1) | exact hn114_1) (.int .i64 ((rd_T33 l0 x8_1).f1))).trans hx114_1; clear hn114_0; clear hn114_1; (try simp only [Go.IntWalk.toNatUp] at hx114_0); (try simp only [Go.IntWalk.toNatUp] at hx114_1); replace p114 := eq_true p114; replace q114 := eq_true q114))
                    go_ret
                    exact ⟨by first | rfl | (simp [errW_none, errW_some] <;> rfl) | (simp only [← hji6]; first | rfl | (simp [errW_none, errW_some] <;> rfl)) | (simp [*, errW_none, errW_some] <;> rfl), by repeat (first | (with_reducible first | exact HB.out | apply below_alloc | apply pw_below_drewN | apply below_drew1 | refine below_set ?_ GE113.out) | exact HB.out)⟩
                  · rw [if_neg c9] at H
                    have c9b0 : decide (((rd_T33 l0 x8_1).f1) < 0) = false := decide_eq_false c9
                    clear c9
                    by_cases c12 : ((rd_T33 l0 x8_1).f1) > (wrap64 (((rd_T33 l0 (ji6)).f1) + 1))
                    · rw [if_pos c12] at H
                      have c12b0 : decide ((wrap64 (((rd_T33 l0 (ji6)).f1) + 1)) < ((rd_T33 l0 x8_1).f1)) = true := decide_eq_true c12
                      clear c12
                      obtain rfl := Option.some.inj H
                      have p112 : 0 ≤ (x8_1 : Int) := of_decide_eq_true (by first | (with_reducible assumption) | assumption)
                      have q112 : x8_1 < (l0.length : Int) := of_decide_eq_true (by first | (with_reducible assumption) | assumption)
                      obtain ⟨ad112, e112, hx112_0, hx112_1⟩ := at_T33 HR0.out x8_1 p112 q112
                      cases e112
                      replace hx112_0 := (HB.out.cell (World.block_lt_of_cell? w _ hx112_0)).trans hx112_0
                      replace hx112_1 := (HB.out.cell (World.block_lt_of_cell? w _ hx112_1)).trans hx112_1
                      (try simp only [Go.IntWalk.toNatUp] at hx112_0)
                      (try simp only [Go.IntWalk.toNatUp] at hx112_1)
                      replace p112 := eq_true p112
                      replace q112 := eq_true q112
                      go_wp2_with (first | ((with_reducible refine gate_dst (N := 4) rfl ?_); (try (refine gate_guard (by rfl) ?_; dsimp only)); refine box_event ?hg (N := 4) ?hd (cs := #[.string (⟨#[]⟩ : ByteArray), .int .i64 0]) (t := 33) ?hr ?_; (case hd => rfl); (case hg => rfl); (case hr => first | (go_simp; done) | (go_simp; rfl)); intro gb113 hg w13 hbox hb; have n0_ := Aside0.mk (below_step (by repeat (first | (with_reducible first | exact HB.out | apply below_alloc | apply pw_below_drewN | apply below_drew1) | exact HB.out)) hb); have n1_ := Aside0.mk (hbox); have n2_ := Aside0.mk ((by rw [hg]; exact (below_size (by repeat (first | (with_reducible first | exact HB.out | apply below_alloc | apply pw_below_drewN | apply below_drew1) | exact HB.out))) : w.heap.size ≤ gb113)); have n3_ := Aside0.mk ((by rw [hg]; exact (below_size (by repeat (first | (with_reducible first | exact HB.out | apply below_alloc | apply pw_below_drewN | apply below_drew1) | exact HB.out))) : w.heap.size ≤ gb113)); clear HB; have HB := n0_; have BK113 := n1_; have GW113 := n2_; have GE113 := n3_; clear n0_ n1_ n2_ n3_; clear hb hbox hg; have hcz14_0 : w13.cell? ⟨gb113, 0, none⟩ = some (.string (⟨#[]⟩ : ByteArray)) := (blk_cell BK113.out 0).trans rfl; have hcz14_1 : w13.cell? ⟨gb113, 1, none⟩ = some (.int .i64 0) := (blk_cell BK113.out 1).trans rfl; have hfz14_0 := blk_frozen BK113.out 0; have hfz14_1 := blk_frozen BK113.out 1; have p114 : 0 ≤ ((ji6) : Int) := of_decide_eq_true (by first | (with_reducible assumption) | assumption); have q114 : (ji6) < (l0.length : Int) := of_decide_eq_true (by first | (with_reducible assumption) | assumption); obtain ⟨ad114, e114, hx114_0, hx114_1⟩ := at_T33 HR0.out (ji6) p114 q114; obtain rfl : ad112 = ad114 := (by injection e114); have hn114_0 : ad112.block ≠ gb113 := Nat.ne_of_lt (Nat.lt_of_lt_of_le (by have := World.block_lt_of_cell? _ _ hx114_0; first | rwa [add_block] at this | exact this) GW113.out); have hn114_1 : ad112.block ≠ gb113 := Nat.ne_of_lt (Nat.lt_of_lt_of_le (by have := World.block_lt_of_cell? _ _ hx114_0; first | rwa [add_block] at this | exact this) GW113.out); replace hx114_0 := (HB.out.cell (World.block_lt_of_cell? w _ hx114_0)).trans hx114_0; replace hx114_1 := (HB.out.cell (World.block_lt_of_cell? w _ hx114_1)).trans hx114_1; replace hx114_0 := (cell_far (p := ⟨gb113, 0, none⟩) (by first | (rw [add_block]; exact hn114_0) | (show (Addr.add _ _).block ≠ _; rw [add_block]; exact hn114_0) | exact hn114_0) (.string ((rd_T33 l0 x8_1).f0))).trans hx114_0; replace hx114_1 := (cell_far (p := ⟨gb113, 0, none⟩) (by first | (rw [add_block]; exact hn114_0) | (show (Addr.add _ _).block ≠ _; rw [add_block]; exact hn114_0) | exact hn114_0) (.string ((rd_T33 l0 x8_1).f0))).trans hx114_1; replace hx114_0 := (cell_far (p := ⟨gb113, 1, none⟩) (by first | (rw [add_block]; exact hn114_1) | (show (Addr.add _ _).block ≠ _; rw [add_block]; exact hn114_1) | exact hn114_1) (.int .i64 ((rd_T33 l0 x8_1).f1))).trans hx114_0; replace hx114_1 := (cell_far (p := ⟨gb113, 1, none⟩) (by first | (rw [add_block]; exact hn114_1) | (show (Addr.add _ _).block ≠ _; rw [add_block]; exact hn114_1) | exact hn114_1) (.int .i64 ((rd_T33 l0 x8_1).f1))).trans hx114_1; clear hn114_0; clear hn114_1; (try simp only [Go.IntWalk.toNatUp] at hx114_0); (try simp only [Go.IntWalk.toNatUp] at hx114_1); replace p114 := eq_true p114; replace q114 := eq_true q114))
                      go_ret
                      exact ⟨by first | rfl | (simp [errW_none, errW_some] <;> rfl) | (simp only [← hji6]; first | rfl | (simp [errW_none, errW_some] <;> rfl)) | (simp [*, errW_none, errW_some] <;> rfl), by repeat (first | (with_reducible first | exact HB.out | apply below_alloc | apply pw_below_drewN | apply below_drew1 | refine below_set ?_ GE113.out) | exact HB.out)⟩
                    · rw [if_neg c12] at H
                      have c12b0 : decide ((wrap64 (((rd_T33 l0 (ji6)).f1) + 1)) < ((rd_T33 l0 x8_1).f1)) = false := decide_eq_false c12
                      clear c12
                      by_cases c15 : (((rd_T33 l0 x8_1).f0).size : Int) > 200
                      · rw [if_pos c15] at H
                        have c15b0 : decide (200 < (((rd_T33 l0 x8_1).f0).size : Int)) = true := decide_eq_true c15
                        have c15b1 : decide (200 < ((rd_T33 l0 x8_1).f0).size) = true := decide_eq_true (by omega)
                        clear c15
                        obtain rfl := Option.some.inj H
                        have p112 : 0 ≤ (x8_1 : Int) := of_decide_eq_true (by first | (with_reducible assumption) | assumption)
                        have q112 : x8_1 < (l0.length : Int) := of_decide_eq_true (by first | (with_reducible assumption) | assumption)
                        obtain ⟨ad112, e112, hx112_0, hx112_1⟩ := at_T33 HR0.out x8_1 p112 q112
                        cases e112
                        replace hx112_0 := (HB.out.cell (World.block_lt_of_cell? w _ hx112_0)).trans hx112_0
                        replace hx112_1 := (HB.out.cell (World.block_lt_of_cell? w _ hx112_1)).trans hx112_1
                        (try simp only [Go.IntWalk.toNatUp] at hx112_0)
                        (try simp only [Go.IntWalk.toNatUp] at hx112_1)
                        replace p112 := eq_true p112
                        replace q112 := eq_true q112
                        go_wp2_with (first | ((with_reducible refine gate_dst (N := 4) rfl ?_); (try (refine gate_guard (by rfl) ?_; dsimp only)); refine box_event ?hg (N := 4) ?hd (cs := #[.string (⟨#[]⟩ : ByteArray), .int .i64 0]) (t := 33) ?hr ?_; (case hd => rfl); (case hg => rfl); (case hr => first | (go_simp; done) | (go_simp; rfl)); intro gb113 hg w16 hbox hb; have n0_ := Aside0.mk (below_step (by repeat (first | (with_reducible first | exact HB.out | apply below_alloc | apply pw_below_drewN | apply below_drew1) | exact HB.out)) hb); have n1_ := Aside0.mk (hbox); have n2_ := Aside0.mk ((by rw [hg]; exact (below_size (by repeat (first | (with_reducible first | exact HB.out | apply below_alloc | apply pw_below_drewN | apply below_drew1) | exact HB.out))) : w.heap.size ≤ gb113)); have n3_ := Aside0.mk ((by rw [hg]; exact (below_size (by repeat (first | (with_reducible first | exact HB.out | apply below_alloc | apply pw_below_drewN | apply below_drew1) | exact HB.out))) : w.heap.size ≤ gb113)); clear HB; have HB := n0_; have BK113 := n1_; have GW113 := n2_; have GE113 := n3_; clear n0_ n1_ n2_ n3_; clear hb hbox hg; have hcz17_0 : w16.cell? ⟨gb113, 0, none⟩ = some (.string (⟨#[]⟩ : ByteArray)) := (blk_cell BK113.out 0).trans rfl; have hcz17_1 : w16.cell? ⟨gb113, 1, none⟩ = some (.int .i64 0) := (blk_cell BK113.out 1).trans rfl; have hfz17_0 := blk_frozen BK113.out 0; have hfz17_1 := blk_frozen BK113.out 1; have p114 : 0 ≤ ((ji6) : Int) := of_decide_eq_true (by first | (with_reducible assumption) | assumption); have q114 : (ji6) < (l0.length : Int) := of_decide_eq_true (by first | (with_reducible assumption) | assumption); obtain ⟨ad114, e114, hx114_0, hx114_1⟩ := at_T33 HR0.out (ji6) p114 q114; obtain rfl : ad112 = ad114 := (by injection e114); have hn114_0 : ad112.block ≠ gb113 := Nat.ne_of_lt (Nat.lt_of_lt_of_le (by have := World.block_lt_of_cell? _ _ hx114_0; first | rwa [add_block] at this | exact this) GW113.out); have hn114_1 : ad112.block ≠ gb113 := Nat.ne_of_lt (Nat.lt_of_lt_of_le (by have := World.block_lt_of_cell? _ _ hx114_0; first | rwa [add_block] at this | exact this) GW113.out); replace hx114_0 := (HB.out.cell (World.block_lt_of_cell? w _ hx114_0)).trans hx114_0; replace hx114_1 := (HB.out.cell (World.block_lt_of_cell? w _ hx114_1)).trans hx114_1; replace hx114_0 := (cell_far (p := ⟨gb113, 0, none⟩) (by first | (rw [add_block]; exact hn114_0) | (show (Addr.add _ _).block ≠ _; rw [add_block]; exact hn114_0) | exact hn114_0) (.string ((rd_T33 l0 x8_1).f0))).trans hx114_0; replace hx114_1 := (cell_far (p := ⟨gb113, 0, none⟩) (by first | (rw [add_block]; exact hn114_0) | (show (Addr.add _ _).block ≠ _; rw [add_block]; exact hn114_0) | exact hn114_0) (.string ((rd_T33 l0 x8_1).f0))).trans hx114_1; replace hx114_0 := (cell_far (p := ⟨gb113, 1, none⟩) (by first | (rw [add_block]; exact hn114_1) | (show (Addr.add _ _).block ≠ _; rw [add_block]; exact hn114_1) | exact hn114_1) (.int .i64 ((rd_T33 l0 x8_1).f1))).trans hx114_0; replace hx114_1 := (cell_far (p := ⟨gb113, 1, none⟩) (by first | (rw [add_block]; exact hn114_1) | (show (Addr.add _ _).block ≠ _; rw [add_block]; exact hn114_1) | exact hn114_1) (.int .i64 ((rd_T33 l0 x8_1).f1))).trans hx114_1; clear hn114_0; clear hn114_1; (try simp only [Go.IntWalk.toNatUp] at hx114_0); (try simp only [Go.IntWalk.toNatUp] at hx114_1); replace p114 := eq_true p114; replace q114 := eq_true q114))
                        go_ret
                        exact ⟨by first | rfl | (simp [errW_none, errW_some] <;> rfl) | (simp only [← hji6]; first | rfl | (simp [errW_none, errW_some] <;> rfl)) | (simp [*, errW_none, errW_some] <;> rfl), by repeat (first | (with_reducible first | exact HB.out | apply below_alloc | apply pw_below_drewN | apply below_drew1 | refine below_set ?_ GE113.out) | exact HB.out)⟩
                      · rw [if_neg c15] at H
                        have c15b0 : decide (200 < (((rd_T33 l0 x8_1).f0).size : Int)) = false := decide_eq_false c15
                        have c15b1 : decide (200 < ((rd_T33 l0 x8_1).f0).size) = false := decide_eq_false (by omega)
                        clear c15
                        replace H := Option.bind_eq_some_iff.mp H
                        obtain ⟨t115, A180, H⟩ := H
                        replace H : (if t115 = true then (spec_LsRight.l0 k1 l0 l0 (l0.length : Int) (wrap64 (x8_1 + 1))) else (some false)) = some r := H
                        have A18 := Aside0.mk A180
                        clear A180
                        by_cases c19 : t115 = true
                        · subst c19
                          have H1 : (spec_LsRight.l0 k1 l0 l0 (l0.length : Int) (wrap64 (x8_1 + 1))) = some r := by rw [if_pos rfl] at H; exact H
                          clear H
                          have H := H1
                          clear H1
                          have H' := Aside0.mk H
                          clear H
                          have p112 : 0 ≤ (x8_1 : Int) := of_decide_eq_true (by first | (with_reducible assumption) | assumption)
                          have q112 : x8_1 < (l0.length : Int) := of_decide_eq_true (by first | (with_reducible assumption) | assumption)
                          obtain ⟨ad112, e112, hx112_0, hx112_1⟩ := at_T33 HR0.out x8_1 p112 q112
                          cases e112
                          replace hx112_0 := (HB.out.cell (World.block_lt_of_cell? w _ hx112_0)).trans hx112_0
                          replace hx112_1 := (HB.out.cell (World.block_lt_of_cell? w _ hx112_1)).trans hx112_1
                          (try simp only [Go.IntWalk.toNatUp] at hx112_0)
                          (try simp only [Go.IntWalk.toNatUp] at hx112_1)
                          replace p112 := eq_true p112
                          replace q112 := eq_true q112
                          go_wp2_with (first | ((with_reducible refine gate_dst (N := 4) rfl ?_); (try (refine gate_guard (by rfl) ?_; dsimp only)); refine box_event ?hg (N := 4) ?hd (cs := #[.string (⟨#[]⟩ : ByteArray), .int .i64 0]) (t := 33) ?hr ?_; (case hd => rfl); (case hg => rfl); (case hr => first | (go_simp; done) | (go_simp; rfl)); intro gb113 hg w20 hbox hb; have n0_ := Aside0.mk (below_step (by repeat (first | (with_reducible first | exact HB.out | apply below_alloc | apply pw_below_drewN | apply below_drew1) | exact HB.out)) hb); have n1_ := Aside0.mk (hbox); have n2_ := Aside0.mk ((by rw [hg]; exact (below_size (by repeat (first | (with_reducible first | exact HB.out | apply below_alloc | apply pw_below_drewN | apply below_drew1) | exact HB.out))) : w.heap.size ≤ gb113)); have n3_ := Aside0.mk ((by rw [hg]; exact (below_size (by repeat (first | (with_reducible first | exact HB.out | apply below_alloc | apply pw_below_drewN | apply below_drew1) | exact HB.out))) : w.heap.size ≤ gb113)); clear HB; have HB := n0_; have BK113 := n1_; have GW113 := n2_; have GE113 := n3_; clear n0_ n1_ n2_ n3_; clear hb hbox hg; have hcz21_0 : w20.cell? ⟨gb113, 0, none⟩ = some (.string (⟨#[]⟩ : ByteArray)) := (blk_cell BK113.out 0).trans rfl; have hcz21_1 : w20.cell? ⟨gb113, 1, none⟩ = some (.int .i64 0) := (blk_cell BK113.out 1).trans rfl; have hfz21_0 := blk_frozen BK113.out 0; have hfz21_1 := blk_frozen BK113.out 1; have p114 : 0 ≤ ((ji6) : Int) := of_decide_eq_true (by first | (with_reducible assumption) | assumption); have q114 : (ji6) < (l0.length : Int) := of_decide_eq_true (by first | (with_reducible assumption) | assumption); obtain ⟨ad114, e114, hx114_0, hx114_1⟩ := at_T33 HR0.out (ji6) p114 q114; obtain rfl : ad112 = ad114 := (by injection e114); have hn114_0 : ad112.block ≠ gb113 := Nat.ne_of_lt (Nat.lt_of_lt_of_le (by have := World.block_lt_of_cell? _ _ hx114_0; first | rwa [add_block] at this | exact this) GW113.out); have hn114_1 : ad112.block ≠ gb113 := Nat.ne_of_lt (Nat.lt_of_lt_of_le (by have := World.block_lt_of_cell? _ _ hx114_0; first | rwa [add_block] at this | exact this) GW113.out); replace hx114_0 := (HB.out.cell (World.block_lt_of_cell? w _ hx114_0)).trans hx114_0; replace hx114_1 := (HB.out.cell (World.block_lt_of_cell? w _ hx114_1)).trans hx114_1; replace hx114_0 := (cell_far (p := ⟨gb113, 0, none⟩) (by first | (rw [add_block]; exact hn114_0) | (show (Addr.add _ _).block ≠ _; rw [add_block]; exact hn114_0) | exact hn114_0) (.string ((rd_T33 l0 x8_1).f0))).trans hx114_0; replace hx114_1 := (cell_far (p := ⟨gb113, 0, none⟩) (by first | (rw [add_block]; exact hn114_0) | (show (Addr.add _ _).block ≠ _; rw [add_block]; exact hn114_0) | exact hn114_0) (.string ((rd_T33 l0 x8_1).f0))).trans hx114_1; replace hx114_0 := (cell_far (p := ⟨gb113, 1, none⟩) (by first | (rw [add_block]; exact hn114_1) | (show (Addr.add _ _).block ≠ _; rw [add_block]; exact hn114_1) | exact hn114_1) (.int .i64 ((rd_T33 l0 x8_1).f1))).trans hx114_0; replace hx114_1 := (cell_far (p := ⟨gb113, 1, none⟩) (by first | (rw [add_block]; exact hn114_1) | (show (Addr.add _ _).block ≠ _; rw [add_block]; exact hn114_1) | exact hn114_1) (.int .i64 ((rd_T33 l0 x8_1).f1))).trans hx114_1; clear hn114_0; clear hn114_1; (try simp only [Go.IntWalk.toNatUp] at hx114_0); (try simp only [Go.IntWalk.toNatUp] at hx114_1); replace p114 := eq_true p114; replace q114 := eq_true q114) | (go_at_call 14; (with_reducible refine (spec_TxSimple.calls k1 ((rd_T33 l0 x8_1).f0) false true _ A18.out).mono ?_); rintro e w22 ⟨rfl, hb⟩; have n0_ := Aside0.mk (blk_below (g := gb113) (o := .cells #[.string ((rd_T33 l0 x8_1).f0), .int .i64 ((rd_T33 l0 x8_1).f1)] 33 (0, 0)) (by (with_reducible repeat (first | refine blk_drewN ?_ _ | refine blk_drew ?_ | refine blk_alloc ?_ _)); refine blk_put (cs := #[.string ((rd_T33 l0 x8_1).f0), .int .i64 0]) ?_ 1 _ rfl; (with_reducible repeat (first | refine blk_drewN ?_ _ | refine blk_drew ?_ | refine blk_alloc ?_ _)); refine blk_put (cs := #[.string (⟨#[]⟩ : ByteArray), .int .i64 0]) ?_ 0 _ rfl; (with_reducible repeat (first | refine blk_drewN ?_ _ | refine blk_drew ?_ | refine blk_alloc ?_ _)); exact BK113.out) hb); have n1_ := Aside0.mk (below_step (by repeat (first | (with_reducible first | exact HB.out | apply below_alloc | apply pw_below_drewN | apply below_drew1 | refine below_set ?_ GE113.out) | exact HB.out)) hb); clear BK113; clear HB; have BK113 := n0_; have HB := n1_; clear n0_ n1_; (try clear hb); (try clear hb2); (try clear hk); (try clear hi)))
                          go_roundg k1
                          case measure => have := HK1.out; omega
                          case rel => exact ⟨(wrap64 (x8_1 + 1)), (by first | rfl | (simp; done) | (simp [*]; done)), H', ⟨by have := HK1.out; omega⟩, ⟨by repeat (first | (with_reducible first | exact HB.out | apply below_alloc | apply pw_below_drewN | apply below_drew1 | refine below_set ?_ GE113.out) | exact HB.out)⟩⟩
                        · replace c19 := Bool.eq_false_iff.mpr c19
                          subst c19
                          have H1 : (some false) = some r := by rw [if_neg (show ¬ (false = true) by decide)] at H; exact H
                          clear H
                          have H := H1
                          clear H1
                          obtain rfl := Option.some.inj H
                          have p112 : 0 ≤ (x8_1 : Int) := of_decide_eq_true (by first | (with_reducible assumption) | assumption)
                          have q112 : x8_1 < (l0.length : Int) := of_decide_eq_true (by first | (with_reducible assumption) | assumption)
                          obtain ⟨ad112, e112, hx112_0, hx112_1⟩ := at_T33 HR0.out x8_1 p112 q112
                          cases e112
                          replace hx112_0 := (HB.out.cell (World.block_lt_of_cell? w _ hx112_0)).trans hx112_0
                          replace hx112_1 := (HB.out.cell (World.block_lt_of_cell? w _ hx112_1)).trans hx112_1
                          (try simp only [Go.IntWalk.toNatUp] at hx112_0)
                          (try simp only [Go.IntWalk.toNatUp] at hx112_1)
                          replace p112 := eq_true p112
                          replace q112 := eq_true q112
                          go_wp2_with (first | ((with_reducible refine gate_dst (N := 4) rfl ?_); (try (refine gate_guard (by rfl) ?_; dsimp only)); refine box_event ?hg (N := 4) ?hd (cs := #[.string (⟨#[]⟩ : ByteArray), .int .i64 0]) (t := 33) ?hr ?_; (case hd => rfl); (case hg => rfl); (case hr => first | (go_simp; done) | (go_simp; rfl)); intro gb113 hg w23 hbox hb; have n0_ := Aside0.mk (below_step (by repeat (first | (with_reducible first | exact HB.out | apply below_alloc | apply pw_below_drewN | apply below_drew1) | exact HB.out)) hb); have n1_ := Aside0.mk (hbox); have n2_ := Aside0.mk ((by rw [hg]; exact (below_size (by repeat (first | (with_reducible first | exact HB.out | apply below_alloc | apply pw_below_drewN | apply below_drew1) | exact HB.out))) : w.heap.size ≤ gb113)); have n3_ := Aside0.mk ((by rw [hg]; exact (below_size (by repeat (first | (with_reducible first | exact HB.out | apply below_alloc | apply pw_below_drewN | apply below_drew1) | exact HB.out))) : w.heap.size ≤ gb113)); clear HB; have HB := n0_; have BK113 := n1_; have GW113 := n2_; have GE113 := n3_; clear n0_ n1_ n2_ n3_; clear hb hbox hg; have hcz24_0 : w23.cell? ⟨gb113, 0, none⟩ = some (.string (⟨#[]⟩ : ByteArray)) := (blk_cell BK113.out 0).trans rfl; have hcz24_1 : w23.cell? ⟨gb113, 1, none⟩ = some (.int .i64 0) := (blk_cell BK113.out 1).trans rfl; have hfz24_0 := blk_frozen BK113.out 0; have hfz24_1 := blk_frozen BK113.out 1; have p114 : 0 ≤ ((ji6) : Int) := of_decide_eq_true (by first | (with_reducible assumption) | assumption); have q114 : (ji6) < (l0.length : Int) := of_decide_eq_true (by first | (with_reducible assumption) | assumption); obtain ⟨ad114, e114, hx114_0, hx114_1⟩ := at_T33 HR0.out (ji6) p114 q114; obtain rfl : ad112 = ad114 := (by injection e114); have hn114_0 : ad112.block ≠ gb113 := Nat.ne_of_lt (Nat.lt_of_lt_of_le (by have := World.block_lt_of_cell? _ _ hx114_0; first | rwa [add_block] at this | exact this) GW113.out); have hn114_1 : ad112.block ≠ gb113 := Nat.ne_of_lt (Nat.lt_of_lt_of_le (by have := World.block_lt_of_cell? _ _ hx114_0; first | rwa [add_block] at this | exact this) GW113.out); replace hx114_0 := (HB.out.cell (World.block_lt_of_cell? w _ hx114_0)).trans hx114_0; replace hx114_1 := (HB.out.cell (World.block_lt_of_cell? w _ hx114_1)).trans hx114_1; replace hx114_0 := (cell_far (p := ⟨gb113, 0, none⟩) (by first | (rw [add_block]; exact hn114_0) | (show (Addr.add _ _).block ≠ _; rw [add_block]; exact hn114_0) | exact hn114_0) (.string ((rd_T33 l0 x8_1).f0))).trans hx114_0; replace hx114_1 := (cell_far (p := ⟨gb113, 0, none⟩) (by first | (rw [add_block]; exact hn114_0) | (show (Addr.add _ _).block ≠ _; rw [add_block]; exact hn114_0) | exact hn114_0) (.string ((rd_T33 l0 x8_1).f0))).trans hx114_1; replace hx114_0 := (cell_far (p := ⟨gb113, 1, none⟩) (by first | (rw [add_block]; exact hn114_1) | (show (Addr.add _ _).block ≠ _; rw [add_block]; exact hn114_1) | exact hn114_1) (.int .i64 ((rd_T33 l0 x8_1).f1))).trans hx114_0; replace hx114_1 := (cell_far (p := ⟨gb113, 1, none⟩) (by first | (rw [add_block]; exact hn114_1) | (show (Addr.add _ _).block ≠ _; rw [add_block]; exact hn114_1) | exact hn114_1) (.int .i64 ((rd_T33 l0 x8_1).f1))).trans hx114_1; clear hn114_0; clear hn114_1; (try simp only [Go.IntWalk.toNatUp] at hx114_0); (try simp only [Go.IntWalk.toNatUp] at hx114_1); replace p114 := eq_true p114; replace q114 := eq_true q114) | (go_at_call 14; (with_reducible refine (spec_TxSimple.calls k1 ((rd_T33 l0 x8_1).f0) false false _ A18.out).mono ?_); rintro e w25 ⟨rfl, hb⟩; have n0_ := Aside0.mk (blk_below (g := gb113) (o := .cells #[.string ((rd_T33 l0 x8_1).f0), .int .i64 ((rd_T33 l0 x8_1).f1)] 33 (0, 0)) (by (with_reducible repeat (first | refine blk_drewN ?_ _ | refine blk_drew ?_ | refine blk_alloc ?_ _)); refine blk_put (cs := #[.string ((rd_T33 l0 x8_1).f0), .int .i64 0]) ?_ 1 _ rfl; (with_reducible repeat (first | refine blk_drewN ?_ _ | refine blk_drew ?_ | refine blk_alloc ?_ _)); refine blk_put (cs := #[.string (⟨#[]⟩ : ByteArray), .int .i64 0]) ?_ 0 _ rfl; (with_reducible repeat (first | refine blk_drewN ?_ _ | refine blk_drew ?_ | refine blk_alloc ?_ _)); exact BK113.out) hb); have n1_ := Aside0.mk (below_step (by repeat (first | (with_reducible first | exact HB.out | apply below_alloc | apply pw_below_drewN | apply below_drew1 | refine below_set ?_ GE113.out) | exact HB.out)) hb); clear BK113; clear HB; have BK113 := n0_; have HB := n1_; clear n0_ n1_; (try clear hb); (try clear hb2); (try clear hk); (try clear hi)))
                          go_ret
                          exact ⟨by first | rfl | (simp [errW_none, errW_some] <;> rfl) | (simp only [← hji6]; first | rfl | (simp [errW_none, errW_some] <;> rfl)) | (simp [*, errW_none, errW_some] <;> rfl), by repeat (first | (with_reducible first | exact HB.out | apply below_alloc | apply pw_below_drewN | apply below_drew1 | refine below_set ?_ GE113.out) | exact HB.out)⟩
                · rw [if_neg c8] at H
                  exact absurd H (by simp)
              · rw [if_neg c7] at H
                exact absurd H (by simp)
            · rw [if_neg c5] at H
              have c5b0 : decide (0 < x8_1) = false := decide_eq_false c5
              clear c5
              by_cases c26 : ((rd_T33 l0 x8_1).f1) < 0
              · rw [if_pos c26] at H
                have c26b0 : decide (((rd_T33 l0 x8_1).f1) < 0) = true := decide_eq_true c26
                clear c26
                obtain rfl := Option.some.inj H
                have p112 : 0 ≤ (x8_1 : Int) := of_decide_eq_true (by first | (with_reducible assumption) | assumption)
                have q112 : x8_1 < (l0.length : Int) := of_decide_eq_true (by first | (with_reducible assumption) | assumption)
                obtain ⟨ad112, e112, hx112_0, hx112_1⟩ := at_T33 HR0.out x8_1 p112 q112
                cases e112
                replace hx112_0 := (HB.out.cell (World.block_lt_of_cell? w _ hx112_0)).trans hx112_0
                replace hx112_1 := (HB.out.cell (World.block_lt_of_cell? w _ hx112_1)).trans hx112_1
                (try simp only [Go.IntWalk.toNatUp] at hx112_0)
                (try simp only [Go.IntWalk.toNatUp] at hx112_1)
                replace p112 := eq_true p112
                replace q112 := eq_true q112
                go_wp2_with (first | ((with_reducible refine gate_dst (N := 4) rfl ?_); (try (refine gate_guard (by rfl) ?_; dsimp only)); refine box_event ?hg (N := 4) ?hd (cs := #[.string (⟨#[]⟩ : ByteArray), .int .i64 0]) (t := 33) ?hr ?_; (case hd => rfl); (case hg => rfl); (case hr => first | (go_simp; done) | (go_simp; rfl)); intro gb113 hg w27 hbox hb; have n0_ := Aside0.mk (below_step (by repeat (first | (with_reducible first | exact HB.out | apply below_alloc | apply pw_below_drewN | apply below_drew1) | exact HB.out)) hb); have n1_ := Aside0.mk (hbox); have n2_ := Aside0.mk ((by rw [hg]; exact (below_size (by repeat (first | (with_reducible first | exact HB.out | apply below_alloc | apply pw_below_drewN | apply below_drew1) | exact HB.out))) : w.heap.size ≤ gb113)); have n3_ := Aside0.mk ((by rw [hg]; exact (below_size (by repeat (first | (with_reducible first | exact HB.out | apply below_alloc | apply pw_below_drewN | apply below_drew1) | exact HB.out))) : w.heap.size ≤ gb113)); clear HB; have HB := n0_; have BK113 := n1_; have GW113 := n2_; have GE113 := n3_; clear n0_ n1_ n2_ n3_; clear hb hbox hg; have hcz28_0 : w27.cell? ⟨gb113, 0, none⟩ = some (.string (⟨#[]⟩ : ByteArray)) := (blk_cell BK113.out 0).trans rfl; have hcz28_1 : w27.cell? ⟨gb113, 1, none⟩ = some (.int .i64 0) := (blk_cell BK113.out 1).trans rfl; have hfz28_0 := blk_frozen BK113.out 0; have hfz28_1 := blk_frozen BK113.out 1))
                go_ret
                exact ⟨by first | rfl | (simp [errW_none, errW_some] <;> rfl) | (simp [*, errW_none, errW_some] <;> rfl), by repeat (first | (with_reducible first | exact HB.out | apply below_alloc | apply pw_below_drewN | apply below_drew1 | refine below_set ?_ GE113.out) | exact HB.out)⟩
              · rw [if_neg c26] at H
                have c26b0 : decide (((rd_T33 l0 x8_1).f1) < 0) = false := decide_eq_false c26
                clear c26
                by_cases c29 : ((rd_T33 l0 x8_1).f1) > 0
                · rw [if_pos c29] at H
                  have c29b0 : decide (0 < ((rd_T33 l0 x8_1).f1)) = true := decide_eq_true c29
                  clear c29
                  obtain rfl := Option.some.inj H
                  have p112 : 0 ≤ (x8_1 : Int) := of_decide_eq_true (by first | (with_reducible assumption) | assumption)
                  have q112 : x8_1 < (l0.length : Int) := of_decide_eq_true (by first | (with_reducible assumption) | assumption)
                  obtain ⟨ad112, e112, hx112_0, hx112_1⟩ := at_T33 HR0.out x8_1 p112 q112
                  cases e112
                  replace hx112_0 := (HB.out.cell (World.block_lt_of_cell? w _ hx112_0)).trans hx112_0
                  replace hx112_1 := (HB.out.cell (World.block_lt_of_cell? w _ hx112_1)).trans hx112_1
                  (try simp only [Go.IntWalk.toNatUp] at hx112_0)
                  (try simp only [Go.IntWalk.toNatUp] at hx112_1)
                  replace p112 := eq_true p112
                  replace q112 := eq_true q112
                  go_wp2_with (first | ((with_reducible refine gate_dst (N := 4) rfl ?_); (try (refine gate_guard (by rfl) ?_; dsimp only)); refine box_event ?hg (N := 4) ?hd (cs := #[.string (⟨#[]⟩ : ByteArray), .int .i64 0]) (t := 33) ?hr ?_; (case hd => rfl); (case hg => rfl); (case hr => first | (go_simp; done) | (go_simp; rfl)); intro gb113 hg w30 hbox hb; have n0_ := Aside0.mk (below_step (by repeat (first | (with_reducible first | exact HB.out | apply below_alloc | apply pw_below_drewN | apply below_drew1) | exact HB.out)) hb); have n1_ := Aside0.mk (hbox); have n2_ := Aside0.mk ((by rw [hg]; exact (below_size (by repeat (first | (with_reducible first | exact HB.out | apply below_alloc | apply pw_below_drewN | apply below_drew1) | exact HB.out))) : w.heap.size ≤ gb113)); have n3_ := Aside0.mk ((by rw [hg]; exact (below_size (by repeat (first | (with_reducible first | exact HB.out | apply below_alloc | apply pw_below_drewN | apply below_drew1) | exact HB.out))) : w.heap.size ≤ gb113)); clear HB; have HB := n0_; have BK113 := n1_; have GW113 := n2_; have GE113 := n3_; clear n0_ n1_ n2_ n3_; clear hb hbox hg; have hcz31_0 : w30.cell? ⟨gb113, 0, none⟩ = some (.string (⟨#[]⟩ : ByteArray)) := (blk_cell BK113.out 0).trans rfl; have hcz31_1 : w30.cell? ⟨gb113, 1, none⟩ = some (.int .i64 0) := (blk_cell BK113.out 1).trans rfl; have hfz31_0 := blk_frozen BK113.out 0; have hfz31_1 := blk_frozen BK113.out 1))
                  go_ret
                  exact ⟨by first | rfl | (simp [errW_none, errW_some] <;> rfl) | (simp [*, errW_none, errW_some] <;> rfl), by repeat (first | (with_reducible first | exact HB.out | apply below_alloc | apply pw_below_drewN | apply below_drew1 | refine below_set ?_ GE113.out) | exact HB.out)⟩
                · rw [if_neg c29] at H
                  have c29b0 : decide (0 < ((rd_T33 l0 x8_1).f1)) = false := decide_eq_false c29
                  clear c29
                  by_cases c32 : (((rd_T33 l0 x8_1).f0).size : Int) > 200
                  · rw [if_pos c32] at H
                    have c32b0 : decide (200 < (((rd_T33 l0 x8_1).f0).size : Int)) = true := decide_eq_true c32
                    have c32b1 : decide (200 < ((rd_T33 l0 x8_1).f0).size) = true := decide_eq_true (by omega)
                    clear c32
                    obtain rfl := Option.some.inj H
                    have p112 : 0 ≤ (x8_1 : Int) := of_decide_eq_true (by first | (with_reducible assumption) | assumption)
                    have q112 : x8_1 < (l0.length : Int) := of_decide_eq_true (by first | (with_reducible assumption) | assumption)
                    obtain ⟨ad112, e112, hx112_0, hx112_1⟩ := at_T33 HR0.out x8_1 p112 q112
                    cases e112
                    replace hx112_0 := (HB.out.cell (World.block_lt_of_cell? w _ hx112_0)).trans hx112_0
                    replace hx112_1 := (HB.out.cell (World.block_lt_of_cell? w _ hx112_1)).trans hx112_1
                    (try simp only [Go.IntWalk.toNatUp] at hx112_0)
                    (try simp only [Go.IntWalk.toNatUp] at hx112_1)
                    replace p112 := eq_true p112
                    replace q112 := eq_true q112
                    go_wp2_with (first | ((with_reducible refine gate_dst (N := 4) rfl ?_); (try (refine gate_guard (by rfl) ?_; dsimp only)); refine box_event ?hg (N := 4) ?hd (cs := #[.string (⟨#[]⟩ : ByteArray), .int .i64 0]) (t := 33) ?hr ?_; (case hd => rfl); (case hg => rfl); (case hr => first | (go_simp; done) | (go_simp; rfl)); intro gb113 hg w33 hbox hb; have n0_ := Aside0.mk (below_step (by repeat (first | (with_reducible first | exact HB.out | apply below_alloc | apply pw_below_drewN | apply below_drew1) | exact HB.out)) hb); have n1_ := Aside0.mk (hbox); have n2_ := Aside0.mk ((by rw [hg]; exact (below_size (by repeat (first | (with_reducible first | exact HB.out | apply below_alloc | apply pw_below_drewN | apply below_drew1) | exact HB.out))) : w.heap.size ≤ gb113)); have n3_ := Aside0.mk ((by rw [hg]; exact (below_size (by repeat (first | (with_reducible first | exact HB.out | apply below_alloc | apply pw_below_drewN | apply below_drew1) | exact HB.out))) : w.heap.size ≤ gb113)); clear HB; have HB := n0_; have BK113 := n1_; have GW113 := n2_; have GE113 := n3_; clear n0_ n1_ n2_ n3_; clear hb hbox hg; have hcz34_0 : w33.cell? ⟨gb113, 0, none⟩ = some (.string (⟨#[]⟩ : ByteArray)) := (blk_cell BK113.out 0).trans rfl; have hcz34_1 : w33.cell? ⟨gb113, 1, none⟩ = some (.int .i64 0) := (blk_cell BK113.out 1).trans rfl; have hfz34_0 := blk_frozen BK113.out 0; have hfz34_1 := blk_frozen BK113.out 1))
                    go_ret
                    exact ⟨by first | rfl | (simp [errW_none, errW_some] <;> rfl) | (simp [*, errW_none, errW_some] <;> rfl), by repeat (first | (with_reducible first | exact HB.out | apply below_alloc | apply pw_below_drewN | apply below_drew1 | refine below_set ?_ GE113.out) | exact HB.out)⟩
                  · rw [if_neg c32] at H
                    have c32b0 : decide (200 < (((rd_T33 l0 x8_1).f0).size : Int)) = false := decide_eq_false c32
                    have c32b1 : decide (200 < ((rd_T33 l0 x8_1).f0).size) = false := decide_eq_false (by omega)
                    clear c32
                    replace H := Option.bind_eq_some_iff.mp H
                    obtain ⟨t116, A350, H⟩ := H
                    replace H : (if t116 = true then (spec_LsRight.l0 k1 l0 l0 (l0.length : Int) (wrap64 (x8_1 + 1))) else (some false)) = some r := H
                    have A35 := Aside0.mk A350
                    clear A350
                    by_cases c36 : t116 = true
                    · subst c36
                      have H1 : (spec_LsRight.l0 k1 l0 l0 (l0.length : Int) (wrap64 (x8_1 + 1))) = some r := by rw [if_pos rfl] at H; exact H
                      clear H
                      have H := H1
                      clear H1
                      have H' := Aside0.mk H
                      clear H
                      have p112 : 0 ≤ (x8_1 : Int) := of_decide_eq_true (by first | (with_reducible assumption) | assumption)
                      have q112 : x8_1 < (l0.length : Int) := of_decide_eq_true (by first | (with_reducible assumption) | assumption)
                      obtain ⟨ad112, e112, hx112_0, hx112_1⟩ := at_T33 HR0.out x8_1 p112 q112
                      cases e112
                      replace hx112_0 := (HB.out.cell (World.block_lt_of_cell? w _ hx112_0)).trans hx112_0
                      replace hx112_1 := (HB.out.cell (World.block_lt_of_cell? w _ hx112_1)).trans hx112_1
                      (try simp only [Go.IntWalk.toNatUp] at hx112_0)
                      (try simp only [Go.IntWalk.toNatUp] at hx112_1)
                      replace p112 := eq_true p112
                      replace q112 := eq_true q112
                      go_wp2_with (first | ((with_reducible refine gate_dst (N := 4) rfl ?_); (try (refine gate_guard (by rfl) ?_; dsimp only)); refine box_event ?hg (N := 4) ?hd (cs := #[.string (⟨#[]⟩ : ByteArray), .int .i64 0]) (t := 33) ?hr ?_; (case hd => rfl); (case hg => rfl); (case hr => first | (go_simp; done) | (go_simp; rfl)); intro gb113 hg w37 hbox hb; have n0_ := Aside0.mk (below_step (by repeat (first | (with_reducible first | exact HB.out | apply below_alloc | apply pw_below_drewN | apply below_drew1) | exact HB.out)) hb); have n1_ := Aside0.mk (hbox); have n2_ := Aside0.mk ((by rw [hg]; exact (below_size (by repeat (first | (with_reducible first | exact HB.out | apply below_alloc | apply pw_below_drewN | apply below_drew1) | exact HB.out))) : w.heap.size ≤ gb113)); have n3_ := Aside0.mk ((by rw [hg]; exact (below_size (by repeat (first | (with_reducible first | exact HB.out | apply below_alloc | apply pw_below_drewN | apply below_drew1) | exact HB.out))) : w.heap.size ≤ gb113)); clear HB; have HB := n0_; have BK113 := n1_; have GW113 := n2_; have GE113 := n3_; clear n0_ n1_ n2_ n3_; clear hb hbox hg; have hcz38_0 : w37.cell? ⟨gb113, 0, none⟩ = some (.string (⟨#[]⟩ : ByteArray)) := (blk_cell BK113.out 0).trans rfl; have hcz38_1 : w37.cell? ⟨gb113, 1, none⟩ = some (.int .i64 0) := (blk_cell BK113.out 1).trans rfl; have hfz38_0 := blk_frozen BK113.out 0; have hfz38_1 := blk_frozen BK113.out 1) | (go_at_call 14; (with_reducible refine (spec_TxSimple.calls k1 ((rd_T33 l0 x8_1).f0) false true _ A35.out).mono ?_); rintro e w39 ⟨rfl, hb⟩; have n0_ := Aside0.mk (blk_below (g := gb113) (o := .cells #[.string ((rd_T33 l0 x8_1).f0), .int .i64 ((rd_T33 l0 x8_1).f1)] 33 (0, 0)) (by (with_reducible repeat (first | refine blk_drewN ?_ _ | refine blk_drew ?_ | refine blk_alloc ?_ _)); refine blk_put (cs := #[.string ((rd_T33 l0 x8_1).f0), .int .i64 0]) ?_ 1 _ rfl; (with_reducible repeat (first | refine blk_drewN ?_ _ | refine blk_drew ?_ | refine blk_alloc ?_ _)); refine blk_put (cs := #[.string (⟨#[]⟩ : ByteArray), .int .i64 0]) ?_ 0 _ rfl; (with_reducible repeat (first | refine blk_drewN ?_ _ | refine blk_drew ?_ | refine blk_alloc ?_ _)); exact BK113.out) hb); have n1_ := Aside0.mk (below_step (by repeat (first | (with_reducible first | exact HB.out | apply below_alloc | apply pw_below_drewN | apply below_drew1 | refine below_set ?_ GE113.out) | exact HB.out)) hb); clear BK113; clear HB; have BK113 := n0_; have HB := n1_; clear n0_ n1_; (try clear hb); (try clear hb2); (try clear hk); (try clear hi)))
                      go_roundg k1
                      case measure => have := HK1.out; omega
                      case rel => exact ⟨(wrap64 (x8_1 + 1)), (by first | rfl | (simp; done) | (simp [*]; done)), H', ⟨by have := HK1.out; omega⟩, ⟨by repeat (first | (with_reducible first | exact HB.out | apply below_alloc | apply pw_below_drewN | apply below_drew1 | refine below_set ?_ GE113.out) | exact HB.out)⟩⟩
                    · replace c36 := Bool.eq_false_iff.mpr c36
                      subst c36
                      have H1 : (some false) = some r := by rw [if_neg (show ¬ (false = true) by decide)] at H; exact H
                      clear H
                      have H := H1
                      clear H1
                      obtain rfl := Option.some.inj H
                      have p112 : 0 ≤ (x8_1 : Int) := of_decide_eq_true (by first | (with_reducible assumption) | assumption)
                      have q112 : x8_1 < (l0.length : Int) := of_decide_eq_true (by first | (with_reducible assumption) | assumption)
                      obtain ⟨ad112, e112, hx112_0, hx112_1⟩ := at_T33 HR0.out x8_1 p112 q112
                      cases e112
                      replace hx112_0 := (HB.out.cell (World.block_lt_of_cell? w _ hx112_0)).trans hx112_0
                      replace hx112_1 := (HB.out.cell (World.block_lt_of_cell? w _ hx112_1)).trans hx112_1
                      (try simp only [Go.IntWalk.toNatUp] at hx112_0)
                      (try simp only [Go.IntWalk.toNatUp] at hx112_1)
                      replace p112 := eq_true p112
                      replace q112 := eq_true q112
                      go_wp2_with (first | ((with_reducible refine gate_dst (N := 4) rfl ?_); (try (refine gate_guard (by rfl) ?_; dsimp only)); refine box_event ?hg (N := 4) ?hd (cs := #[.string (⟨#[]⟩ : ByteArray), .int .i64 0]) (t := 33) ?hr ?_; (case hd => rfl); (case hg => rfl); (case hr => first | (go_simp; done) | (go_simp; rfl)); intro gb113 hg w40 hbox hb; have n0_ := Aside0.mk (below_step (by repeat (first | (with_reducible first | exact HB.out | apply below_alloc | apply pw_below_drewN | apply below_drew1) | exact HB.out)) hb); have n1_ := Aside0.mk (hbox); have n2_ := Aside0.mk ((by rw [hg]; exact (below_size (by repeat (first | (with_reducible first | exact HB.out | apply below_alloc | apply pw_below_drewN | apply below_drew1) | exact HB.out))) : w.heap.size ≤ gb113)); have n3_ := Aside0.mk ((by rw [hg]; exact (below_size (by repeat (first | (with_reducible first | exact HB.out | apply below_alloc | apply pw_below_drewN | apply below_drew1) | exact HB.out))) : w.heap.size ≤ gb113)); clear HB; have HB := n0_; have BK113 := n1_; have GW113 := n2_; have GE113 := n3_; clear n0_ n1_ n2_ n3_; clear hb hbox hg; have hcz41_0 : w40.cell? ⟨gb113, 0, none⟩ = some (.string (⟨#[]⟩ : ByteArray)) := (blk_cell BK113.out 0).trans rfl; have hcz41_1 : w40.cell? ⟨gb113, 1, none⟩ = some (.int .i64 0) := (blk_cell BK113.out 1).trans rfl; have hfz41_0 := blk_frozen BK113.out 0; have hfz41_1 := blk_frozen BK113.out 1) | (go_at_call 14; (with_reducible refine (spec_TxSimple.calls k1 ((rd_T33 l0 x8_1).f0) false false _ A35.out).mono ?_); rintro e w42 ⟨rfl, hb⟩; have n0_ := Aside0.mk (blk_below (g := gb113) (o := .cells #[.string ((rd_T33 l0 x8_1).f0), .int .i64 ((rd_T33 l0 x8_1).f1)] 33 (0, 0)) (by (with_reducible repeat (first | refine blk_drewN ?_ _ | refine blk_drew ?_ | refine blk_alloc ?_ _)); refine blk_put (cs := #[.string ((rd_T33 l0 x8_1).f0), .int .i64 0]) ?_ 1 _ rfl; (with_reducible repeat (first | refine blk_drewN ?_ _ | refine blk_drew ?_ | refine blk_alloc ?_ _)); refine blk_put (cs := #[.string (⟨#[]⟩ : ByteArray), .int .i64 0]) ?_ 0 _ rfl; (with_reducible repeat (first | refine blk_drewN ?_ _ | refine blk_drew ?_ | refine blk_alloc ?_ _)); exact BK113.out) hb); have n1_ := Aside0.mk (below_step (by repeat (first | (with_reducible first | exact HB.out | apply below_alloc | apply pw_below_drewN | apply below_drew1 | refine below_set ?_ GE113.out) | exact HB.out)) hb); clear BK113; clear HB; have BK113 := n0_; have HB := n1_; clear n0_ n1_; (try clear hb); (try clear hb2); (try clear hk); (try clear hi)))
                      go_ret
                      exact ⟨by first | rfl | (simp [errW_none, errW_some] <;> rfl) | (simp [*, errW_none, errW_some] <;> rfl), by repeat (first | (with_reducible first | exact HB.out | apply below_alloc | apply pw_below_drewN | apply below_drew1 | refine below_set ?_ GE113.out) | exact HB.out)⟩
          · rw [if_neg c4] at H
            exact absurd H (by simp)
        · rw [if_neg c3] at H
          exact absurd H (by simp)
      · rw [if_neg c2] at H
        have c2b0 : decide (x8_1 < (l0.length : Int)) = false := decide_eq_false c2
        clear c2
        obtain rfl := Option.some.inj H
        go_wp2
        go_ret
        exact ⟨by first | rfl | (simp [errW_none, errW_some] <;> rfl) | (simp [*, errW_none, errW_some] <;> rfl), by repeat (first | (with_reducible first | exact HB.out | apply below_alloc | apply pw_below_drewN | apply below_drew1) | exact HB.out)⟩

end Go.Proofs.YtmakcmggicedfaaDoor.PFnListItems
