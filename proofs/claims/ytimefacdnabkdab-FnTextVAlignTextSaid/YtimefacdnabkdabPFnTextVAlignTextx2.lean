-- Written by hprint.py, a program of this session
import Derived.Test.YtimefacdnabkdabPFnTextVAlignTextx0
import Derived.Test.YtimefacdnabkdabPFnTextVAlignTextx1
namespace Go.Proofs.Ytimefacdnabkdab.PFnTextVAlignText
open Go.RowKit Go.Proofs.Ytimefacdnabkdab.Hand Go.Proofs.YtimefacdnabkdabW.PrintWords Go.Proofs.YtimefacdnabkdabW.PrintLast Go.Proofs.YtimefacdnabkdabW.PrintMore
attribute [local go_sem] max2_int min2_int max_two min_two max_three min_three max_four min_four   -- for this text's walks alone
set_option linter.unusedVariables false
set_option linter.unusedSimpArgs false

/-! ### spec_TxSimple: function 17 -/
def spec_TxSimple.l0 : Nat → Bool → Int → ByteArray → Option (Bool)
  | 0, _, _, _ => none
  | k + 1, x1, x107000, x107001 => if It.itK x107000 < (x107001.size : Int) then ((spec_TxKnown.f (It.itR x107001 x107000)).bind fun t107 => (if t107 = true then (spec_TxSimple.l0 k x1 (It.itP x107001 x107000) x107001) else (if x1 = true then (if ((It.itR x107001 x107000) = 10) then (spec_TxSimple.l0 k x1 (It.itP x107001 x107000) x107001) else (some false)) else (some false)))) else (some true)
def spec_TxSimple.f (k : Nat) (a0 : ByteArray) (a1 : Bool) : Option (Bool) := spec_TxSimple.l0 k a1 0 a0
theorem spec_TxSimple.mono_l : ∀ k, (∀ y0 y1 y2, LeO (spec_TxSimple.l0 k y0 y1 y2) (spec_TxSimple.l0 (k + 1) y0 y1 y2))
  | 0 => fun _ _ _ r h => by simp [spec_TxSimple.l0] at h
  | k + 1 => by
    have ih0 := spec_TxSimple.mono_l k
    · intro y0 y1 y2
      unfold spec_TxSimple.l0
      repeat' first
      | (with_reducible exact ih0 _ _ _)
      | (with_reducible exact LeO.refl _)
      | (with_reducible exact LeO.none _)
      | (with_reducible refine LeO.ite ?_ ?_)
      | (with_reducible refine LeO.bind ?_ (fun _ => ?_))
      | exact ih0 _ _ _
      | exact LeO.none _
      | refine LeO.ite ?_ ?_
      | refine LeO.bind ?_ (fun _ => ?_)
theorem spec_TxSimple.mono : ∀ a0 a1 k, LeO (spec_TxSimple.f k a0 a1) (spec_TxSimple.f (k + 1) a0 a1) := by
  intro a0 a1 k
  have ih0 := spec_TxSimple.mono_l k
  unfold spec_TxSimple.f
  repeat' first
      | (with_reducible exact ih0 _ _ _)
      | (with_reducible exact LeO.refl _)
      | (with_reducible exact LeO.none _)
      | (with_reducible refine LeO.ite ?_ ?_)
      | (with_reducible refine LeO.bind ?_ (fun _ => ?_))
      | exact ih0 _ _ _
      | exact LeO.none _
      | refine LeO.ite ?_ ?_
      | refine LeO.bind ?_ (fun _ => ?_)
set_option maxHeartbeats 8000000 in
set_option maxRecDepth 100000 in
theorem spec_TxSimple.calls (k : Nat) (a0 : ByteArray) (a1 : Bool) (r : Bool) (w : World) (h : spec_TxSimple.f k a0 a1 = some r) :
    Calls Try.prog 17 #[.string a0, .bool a1] w fun e w' => e = .returned (.bool r) ∧ Below w.heap.size w w' := by
  have HB := Aside0.mk (Below.refl w.heap.size w)
  have H : (spec_TxSimple.l0 k a1 0 a0) = some r := h
  clear h
  have H' := Aside0.mk H
  clear H
  go_enter Try.func17, Try.ntmps17
  go_wp2_with (first | ((with_reducible refine gate_dst (N := 8) rfl ?_); refine It.range_event ?hg (N := 8) ?hd (s := a0) rfl Try.underlying9 ?hr ?_; (case hd => rfl); (case hg => rfl); (case hr => first | rfl | (go_simp; done) | (go_simp; rfl)); intro gb106 hg w3 hbox hb; have n0_ := Aside0.mk (below_step (by repeat (first | (with_reducible first | exact HB.out | apply below_alloc | apply pw_below_drewN | apply below_drew1) | exact HB.out)) hb); have n1_ := Aside0.mk (hbox); have n2_ := Aside0.mk ((by rw [hg]; exact (below_size (by repeat (first | (with_reducible first | exact HB.out | apply below_alloc | apply pw_below_drewN | apply below_drew1) | exact HB.out))) : w.heap.size ≤ gb106)); have n3_ := Aside0.mk ((by rw [hg]; exact (below_size (by repeat (first | (with_reducible first | exact HB.out | apply below_alloc | apply pw_below_drewN | apply below_drew1) | exact HB.out))) : w.heap.size ≤ gb106)); clear HB; have HB := n0_; have BK106 := n1_; have GW106 := n2_; have GE106 := n3_; clear n0_ n1_ n2_ n3_; clear hb hbox hg))
  (try simp only [Act.put, List.setIfInBounds_toArray, List.set_cons_zero, List.set_cons_succ])
  go_loopg [] k (fun kq w' => ∃ (x107000_1 : Int), Aside0 (spec_TxSimple.l0 kq a1 x107000_1 a0 = some r) ∧ Aside0 (kq ≤ k) ∧ Aside0 (w'.heap[gb106]? = some (.stringIter a0 (x107000_1 : Int).toNat)) ∧ Aside0 (Below w.heap.size w w'))
  case atStart => exact ⟨(0), H', ⟨Nat.le_refl _⟩, ⟨by (with_reducible repeat (first | refine blk_drewN ?_ _ | refine blk_drew ?_ | refine blk_alloc ?_ _)); exact BK106.out⟩, ⟨by repeat (first | (with_reducible first | exact HB.out | apply below_alloc | apply pw_below_drewN | apply below_drew1 | refine below_set ?_ GE106.out) | exact HB.out)⟩⟩
  case round =>
    clear H'
    try clear c1
    try clear p2
    obtain ⟨x107000_1, HA, HK1, BK106, HB⟩ := hrel
    cases gk with
    | zero => exact absurd HA.out (by simp [spec_TxSimple.l0])
    | succ k1 =>
      have H := HA.out
      clear HA
      simp only [spec_TxSimple.l0] at H
      by_cases c4 : It.itK x107000_1 < (a0.size : Int)
      · rw [if_pos c4] at H
        have c4b0 : decide (It.itK x107000_1 < (a0.size : Int)) = true := decide_eq_true c4
        clear c4
        replace H := Option.bind_eq_some_iff.mp H
        obtain ⟨t107, A50, H⟩ := H
        replace H : (if t107 = true then (spec_TxSimple.l0 k1 a1 (It.itP a0 x107000_1) a0) else (if a1 = true then (if ((It.itR a0 x107000_1) = 10) then (spec_TxSimple.l0 k1 a1 (It.itP a0 x107000_1) a0) else (some false)) else (some false))) = some r := H
        have A5 := Aside0.mk A50
        clear A50
        by_cases c6 : t107 = true
        · subst c6
          have H1 : (spec_TxSimple.l0 k1 a1 (It.itP a0 x107000_1) a0) = some r := by rw [if_pos rfl] at H; exact H
          clear H
          have H := H1
          clear H1
          have H' := Aside0.mk H
          clear H
          go_wp2_with (first | ((with_reducible refine gate_dst (N := 9) rfl ?_); refine It.next_yes ?hg (N := 9) ?hd (g := gb106) (s := a0) (pos := x107000_1) rfl ?hr (by (with_reducible repeat (first | refine blk_drewN ?_ _ | refine blk_drew ?_ | refine blk_alloc ?_ _)); exact BK106.out) (of_decide_eq_true (by first | (with_reducible assumption) | assumption)) ?_; (case hd => rfl); (case hg => rfl); (case hr => first | rfl | (go_simp; done) | (go_simp; rfl)); intro w7 hg_ hbox; have n0_ := Aside0.mk (hbox); have n1_ := Aside0.mk (It.below_iter (by repeat (first | (with_reducible first | exact HB.out | apply below_alloc | apply pw_below_drewN | apply below_drew1 | refine below_set ?_ GE106.out) | exact HB.out)) (below_size (by repeat (first | (with_reducible first | exact HB.out | apply below_alloc | apply pw_below_drewN | apply below_drew1 | refine below_set ?_ GE106.out) | exact HB.out))) hg_ GE106.out); clear BK106; clear HB; have BK106 := n0_; have HB := n1_; clear n0_ n1_; clear hg_ hbox) | ((with_reducible refine gate_callee (f := 34) rfl ?_); refine goesL_ (some 13) rfl rfl Try.func34 (by kernel_rfl) rfl #[.int .i32 (It.itR a0 x107000_1)] rfl (by (try simp only [List.map_toArray, List.map_cons, List.map_nil]); first | done | rfl | (simp only [List.length_drop, List.length_take]; rfl)) ?_; (with_reducible refine (spec_TxKnown.calls (It.itR a0 x107000_1) true _ A5.out).mono ?_); rintro e w' ⟨rfl, ⟨nd, rfl⟩⟩; refine ⟨_, rfl, ?_⟩))
          go_roundg k1
          case measure => have := HK1.out; omega
          case rel => exact ⟨(It.itP a0 x107000_1), H', ⟨by have := HK1.out; omega⟩, ⟨by (with_reducible repeat (first | refine blk_drewN ?_ _ | refine blk_drew ?_ | refine blk_alloc ?_ _)); exact BK106.out⟩, ⟨by repeat (first | (with_reducible first | exact HB.out | apply below_alloc | apply pw_below_drewN | apply below_drew1 | refine below_set ?_ GE106.out) | exact HB.out)⟩⟩
        · replace c6 := Bool.eq_false_iff.mpr c6
          subst c6
          have H1 : (if a1 = true then (if ((It.itR a0 x107000_1) = 10) then (spec_TxSimple.l0 k1 a1 (It.itP a0 x107000_1) a0) else (some false)) else (some false)) = some r := by rw [if_neg (show ¬ (false = true) by decide)] at H; exact H
          clear H
          have H := H1
          clear H1
          by_cases c8 : a1 = true
          · subst c8
            have H1 : (if ((It.itR a0 x107000_1) = 10) then (spec_TxSimple.l0 k1 true (It.itP a0 x107000_1) a0) else (some false)) = some r := by rw [if_pos rfl] at H; exact H
            clear H
            have H := H1
            clear H1
            by_cases c9 : ((It.itR a0 x107000_1) = 10)
            · rw [if_pos c9] at H
              have c9b0 : ((It.itR a0 x107000_1) == 10) = true := beq_iff_eq.mpr c9
              have c9b1 : ((It.itR a0 x107000_1) != 10) = false := bne_eq_false_iff_eq.mpr c9
              clear c9
              have H' := Aside0.mk H
              clear H
              go_wp2_with (first | ((with_reducible refine gate_dst (N := 9) rfl ?_); refine It.next_yes ?hg (N := 9) ?hd (g := gb106) (s := a0) (pos := x107000_1) rfl ?hr (by (with_reducible repeat (first | refine blk_drewN ?_ _ | refine blk_drew ?_ | refine blk_alloc ?_ _)); exact BK106.out) (of_decide_eq_true (by first | (with_reducible assumption) | assumption)) ?_; (case hd => rfl); (case hg => rfl); (case hr => first | rfl | (go_simp; done) | (go_simp; rfl)); intro w10 hg_ hbox; have n0_ := Aside0.mk (hbox); have n1_ := Aside0.mk (It.below_iter (by repeat (first | (with_reducible first | exact HB.out | apply below_alloc | apply pw_below_drewN | apply below_drew1 | refine below_set ?_ GE106.out) | exact HB.out)) (below_size (by repeat (first | (with_reducible first | exact HB.out | apply below_alloc | apply pw_below_drewN | apply below_drew1 | refine below_set ?_ GE106.out) | exact HB.out))) hg_ GE106.out); clear BK106; clear HB; have BK106 := n0_; have HB := n1_; clear n0_ n1_; clear hg_ hbox) | ((with_reducible refine gate_callee (f := 34) rfl ?_); refine goesL_ (some 13) rfl rfl Try.func34 (by kernel_rfl) rfl #[.int .i32 (It.itR a0 x107000_1)] rfl (by (try simp only [List.map_toArray, List.map_cons, List.map_nil]); first | done | rfl | (simp only [List.length_drop, List.length_take]; rfl)) ?_; (with_reducible refine (spec_TxKnown.calls (It.itR a0 x107000_1) false _ A5.out).mono ?_); rintro e w' ⟨rfl, ⟨nd, rfl⟩⟩; refine ⟨_, rfl, ?_⟩))
              go_roundg k1
              case measure => have := HK1.out; omega
              case rel => exact ⟨(It.itP a0 x107000_1), H', ⟨by have := HK1.out; omega⟩, ⟨by (with_reducible repeat (first | refine blk_drewN ?_ _ | refine blk_drew ?_ | refine blk_alloc ?_ _)); exact BK106.out⟩, ⟨by repeat (first | (with_reducible first | exact HB.out | apply below_alloc | apply pw_below_drewN | apply below_drew1 | refine below_set ?_ GE106.out) | exact HB.out)⟩⟩
            · rw [if_neg c9] at H
              have c9b0 : ((It.itR a0 x107000_1) == 10) = false := beq_eq_false_iff_ne.mpr c9
              have c9b1 : ((It.itR a0 x107000_1) != 10) = true := bne_iff_ne.mpr c9
              obtain rfl := Option.some.inj H
              go_wp2_with (first | ((with_reducible refine gate_dst (N := 9) rfl ?_); refine It.next_yes ?hg (N := 9) ?hd (g := gb106) (s := a0) (pos := x107000_1) rfl ?hr (by (with_reducible repeat (first | refine blk_drewN ?_ _ | refine blk_drew ?_ | refine blk_alloc ?_ _)); exact BK106.out) (of_decide_eq_true (by first | (with_reducible assumption) | assumption)) ?_; (case hd => rfl); (case hg => rfl); (case hr => first | rfl | (go_simp; done) | (go_simp; rfl)); intro w11 hg_ hbox; have n0_ := Aside0.mk (hbox); have n1_ := Aside0.mk (It.below_iter (by repeat (first | (with_reducible first | exact HB.out | apply below_alloc | apply pw_below_drewN | apply below_drew1 | refine below_set ?_ GE106.out) | exact HB.out)) (below_size (by repeat (first | (with_reducible first | exact HB.out | apply below_alloc | apply pw_below_drewN | apply below_drew1 | refine below_set ?_ GE106.out) | exact HB.out))) hg_ GE106.out); clear BK106; clear HB; have BK106 := n0_; have HB := n1_; clear n0_ n1_; clear hg_ hbox) | ((with_reducible refine gate_callee (f := 34) rfl ?_); refine goesL_ (some 13) rfl rfl Try.func34 (by kernel_rfl) rfl #[.int .i32 (It.itR a0 x107000_1)] rfl (by (try simp only [List.map_toArray, List.map_cons, List.map_nil]); first | done | rfl | (simp only [List.length_drop, List.length_take]; rfl)) ?_; (with_reducible refine (spec_TxKnown.calls (It.itR a0 x107000_1) false _ A5.out).mono ?_); rintro e w' ⟨rfl, ⟨nd, rfl⟩⟩; refine ⟨_, rfl, ?_⟩))
              go_ret
              exact ⟨by first | rfl | (simp [errW_none, errW_some] <;> rfl) | (simp [*, errW_none, errW_some] <;> rfl), by repeat (first | (with_reducible first | exact HB.out | apply below_alloc | apply pw_below_drewN | apply below_drew1 | refine below_set ?_ GE106.out) | exact HB.out)⟩
          · replace c8 := Bool.eq_false_iff.mpr c8
            subst c8
            have H1 : (some false) = some r := by rw [if_neg (show ¬ (false = true) by decide)] at H; exact H
            clear H
            have H := H1
            clear H1
            obtain rfl := Option.some.inj H
            go_wp2_with (first | ((with_reducible refine gate_dst (N := 9) rfl ?_); refine It.next_yes ?hg (N := 9) ?hd (g := gb106) (s := a0) (pos := x107000_1) rfl ?hr (by (with_reducible repeat (first | refine blk_drewN ?_ _ | refine blk_drew ?_ | refine blk_alloc ?_ _)); exact BK106.out) (of_decide_eq_true (by first | (with_reducible assumption) | assumption)) ?_; (case hd => rfl); (case hg => rfl); (case hr => first | rfl | (go_simp; done) | (go_simp; rfl)); intro w12 hg_ hbox; have n0_ := Aside0.mk (hbox); have n1_ := Aside0.mk (It.below_iter (by repeat (first | (with_reducible first | exact HB.out | apply below_alloc | apply pw_below_drewN | apply below_drew1 | refine below_set ?_ GE106.out) | exact HB.out)) (below_size (by repeat (first | (with_reducible first | exact HB.out | apply below_alloc | apply pw_below_drewN | apply below_drew1 | refine below_set ?_ GE106.out) | exact HB.out))) hg_ GE106.out); clear BK106; clear HB; have BK106 := n0_; have HB := n1_; clear n0_ n1_; clear hg_ hbox) | ((with_reducible refine gate_callee (f := 34) rfl ?_); refine goesL_ (some 13) rfl rfl Try.func34 (by kernel_rfl) rfl #[.int .i32 (It.itR a0 x107000_1)] rfl (by (try simp only [List.map_toArray, List.map_cons, List.map_nil]); first | done | rfl | (simp only [List.length_drop, List.length_take]; rfl)) ?_; (with_reducible refine (spec_TxKnown.calls (It.itR a0 x107000_1) false _ A5.out).mono ?_); rintro e w' ⟨rfl, ⟨nd, rfl⟩⟩; refine ⟨_, rfl, ?_⟩))
            go_ret
            exact ⟨by first | rfl | (simp [errW_none, errW_some] <;> rfl) | (simp [*, errW_none, errW_some] <;> rfl), by repeat (first | (with_reducible first | exact HB.out | apply below_alloc | apply pw_below_drewN | apply below_drew1 | refine below_set ?_ GE106.out) | exact HB.out)⟩
      · rw [if_neg c4] at H
        have c4b0 : decide (It.itK x107000_1 < (a0.size : Int)) = false := decide_eq_false c4
        clear c4
        obtain rfl := Option.some.inj H
        go_wp2_with (first | ((with_reducible refine gate_dst (N := 9) rfl ?_); refine It.next_no ?hg (N := 9) ?hd (g := gb106) (s := a0) (pos := x107000_1) rfl ?hr (by (with_reducible repeat (first | refine blk_drewN ?_ _ | refine blk_drew ?_ | refine blk_alloc ?_ _)); exact BK106.out) (of_decide_eq_false (by first | (with_reducible assumption) | assumption)) ?_; (case hd => rfl); (case hg => rfl); (case hr => first | rfl | (go_simp; done) | (go_simp; rfl))))
        go_ret
        exact ⟨by first | rfl | (simp [errW_none, errW_some] <;> rfl) | (simp [*, errW_none, errW_some] <;> rfl), by repeat (first | (with_reducible first | exact HB.out | apply below_alloc | apply pw_below_drewN | apply below_drew1 | refine below_set ?_ GE106.out) | exact HB.out)⟩

/-! ### text_zzIndex: function 72 -/
def text_zzIndex.l0 : Nat → ByteArray → ByteArray → Int → Option (Int)
  | 0, _, _, _ => none
  | k + 1, x0, x1, x5 => if (wrap64 (x5 + (x1.size : Int))) ≤ (x0.size : Int) then (if 0 ≤ x5 then (if x5 ≤ (wrap64 (x5 + (x1.size : Int))) then (if (x0.extract (x5 : Int).toNat ((wrap64 (x5 + (x1.size : Int))) : Int).toNat).toList = x1.toList then (some x5) else (text_zzIndex.l0 k x0 x1 (wrap64 (x5 + 1)))) else (none)) else (none)) else (some (-1))
def text_zzIndex.f (k : Nat) (a0 : ByteArray) (a1 : ByteArray) : Option (Int) := text_zzIndex.l0 k a0 a1 0
theorem text_zzIndex.mono_l : ∀ k, (∀ y0 y1 y2, LeO (text_zzIndex.l0 k y0 y1 y2) (text_zzIndex.l0 (k + 1) y0 y1 y2))
  | 0 => fun _ _ _ r h => by simp [text_zzIndex.l0] at h
  | k + 1 => by
    have ih0 := text_zzIndex.mono_l k
    · intro y0 y1 y2
      unfold text_zzIndex.l0
      repeat' first
      | (with_reducible exact ih0 _ _ _)
      | (with_reducible exact LeO.refl _)
      | (with_reducible exact LeO.none _)
      | (with_reducible refine LeO.ite ?_ ?_)
      | (with_reducible refine LeO.bind ?_ (fun _ => ?_))
      | exact ih0 _ _ _
      | exact LeO.none _
      | refine LeO.ite ?_ ?_
      | refine LeO.bind ?_ (fun _ => ?_)
theorem text_zzIndex.mono : ∀ a0 a1 k, LeO (text_zzIndex.f k a0 a1) (text_zzIndex.f (k + 1) a0 a1) := by
  intro a0 a1 k
  have ih0 := text_zzIndex.mono_l k
  unfold text_zzIndex.f
  repeat' first
      | (with_reducible exact ih0 _ _ _)
      | (with_reducible exact LeO.refl _)
      | (with_reducible exact LeO.none _)
      | (with_reducible refine LeO.ite ?_ ?_)
      | (with_reducible refine LeO.bind ?_ (fun _ => ?_))
      | exact ih0 _ _ _
      | exact LeO.none _
      | refine LeO.ite ?_ ?_
      | refine LeO.bind ?_ (fun _ => ?_)
set_option maxHeartbeats 8000000 in
set_option maxRecDepth 100000 in
theorem text_zzIndex.calls (k : Nat) (a0 : ByteArray) (a1 : ByteArray) (r : Int) (w : World) (h : text_zzIndex.f k a0 a1 = some r) :
    Calls Try.prog 72 #[.string a0, .string a1] w fun e w' => e = .returned (.int .i64 r) ∧ Drawn0 w w' := by
  have H : (text_zzIndex.l0 k a0 a1 0) = some r := h
  clear h
  have H' := Aside0.mk H
  clear H
  go_enter Try.func72, Try.ntmps72
  go_wp2
  go_loopg [5] k (fun kq v5 w' => ∃ (x5_1 : Int), v5 = .int .i64 x5_1 ∧ Aside0 (text_zzIndex.l0 kq a0 a1 x5_1 = some r) ∧ Aside0 (kq ≤ k) ∧ Drawn0 w w')
  case atStart => exact ⟨(0), (by first | rfl | (simp; done) | (simp [*]; done)), H', ⟨Nat.le_refl _⟩, by repeat (first | exact Drawn0.refl _ | apply Drawn0.step)⟩
  case round =>
    clear H'
    try clear p2
    obtain ⟨x5_1, rfl, HA, HK1, ⟨m1, rfl⟩⟩ := hrel
    cases gk with
    | zero => exact absurd HA.out (by simp [text_zzIndex.l0])
    | succ k1 =>
      have H := HA.out
      clear HA
      simp only [text_zzIndex.l0] at H
      by_cases c3 : (wrap64 (x5_1 + (a1.size : Int))) ≤ (a0.size : Int)
      · rw [if_pos c3] at H
        have c3b0 : decide ((wrap64 (x5_1 + (a1.size : Int))) ≤ (a0.size : Int)) = true := decide_eq_true c3
        clear c3
        by_cases c4 : 0 ≤ x5_1
        · rw [if_pos c4] at H
          have c4b0 := eq_true c4
          have c4b1 : decide (0 ≤ x5_1) = true := decide_eq_true c4
          clear c4
          by_cases c5 : x5_1 ≤ (wrap64 (x5_1 + (a1.size : Int)))
          · rw [if_pos c5] at H
            have c5b0 := eq_true c5
            have c5b1 : decide (x5_1 ≤ (wrap64 (x5_1 + (a1.size : Int)))) = true := decide_eq_true c5
            have c6b0 := eq_true (of_decide_eq_true (by first | (with_reducible assumption) | assumption) : (wrap64 (x5_1 + (a1.size : Int))) ≤ (a0.size : Int))
            by_cases c7 : (a0.extract (x5_1 : Int).toNat ((wrap64 (x5_1 + (a1.size : Int))) : Int).toNat).toList = a1.toList
            · rw [if_pos c7] at H
              have c7b0 : ((a0.extract (x5_1 : Int).toNat ((wrap64 (x5_1 + (a1.size : Int))) : Int).toNat).toList == a1.toList) = true := beq_iff_eq.mpr c7
              have c7b1 : ((a0.extract (x5_1 : Int).toNat ((wrap64 (x5_1 + (a1.size : Int))) : Int).toNat).toList != a1.toList) = false := bne_eq_false_iff_eq.mpr c7
              clear c7
              obtain rfl := Option.some.inj H
              go_wp2
              go_ret
              exact ⟨by first | rfl | (simp; done) | (simp [*]; done), by repeat (first | exact Drawn0.refl _ | apply Drawn0.step)⟩
            · rw [if_neg c7] at H
              have c7b0 : ((a0.extract (x5_1 : Int).toNat ((wrap64 (x5_1 + (a1.size : Int))) : Int).toNat).toList == a1.toList) = false := beq_eq_false_iff_ne.mpr c7
              have c7b1 : ((a0.extract (x5_1 : Int).toNat ((wrap64 (x5_1 + (a1.size : Int))) : Int).toNat).toList != a1.toList) = true := bne_iff_ne.mpr c7
              have H' := Aside0.mk H
              clear H
              go_wp2
              go_roundg k1
              case measure => have := HK1.out; omega
              case rel => exact ⟨(wrap64 (x5_1 + 1)), (by first | rfl | (simp; done) | (simp [*]; done)), H', ⟨by have := HK1.out; omega⟩, by repeat (first | exact Drawn0.refl _ | apply Drawn0.step)⟩
          · rw [if_neg c5] at H
            exact absurd H (by simp)
        · rw [if_neg c4] at H
          exact absurd H (by simp)
      · rw [if_neg c3] at H
        have c3b0 : decide ((wrap64 (x5_1 + (a1.size : Int))) ≤ (a0.size : Int)) = false := decide_eq_false c3
        clear c3
        obtain rfl := Option.some.inj H
        go_wp2
        go_ret
        exact ⟨by first | rfl | (simp; done) | (simp [*]; done), by repeat (first | exact Drawn0.refl _ | apply Drawn0.step)⟩

/-! ### text_zzSplit: function 57 -/
mutual
def text_zzSplit.l0 : Nat → ByteArray → List ByteArray → Int → Int → ByteArray → Option (List ByteArray)
  | 0, _, _, _, _, _ => none
  | k + 1, x0, x5, x6, x109000, x109001 => if It.itK x109000 < (x109001.size : Int) then (if (It.itK x109000) > 0 then (if 0 ≤ x6 then (if x6 ≤ (It.itK x109000) then (if (It.itK x109000) ≤ (x0.size : Int) then (if x5.length < 8796093022208 then (text_zzSplit.l0 k x0 (x5 ++ [x0.extract (x6 : Int).toNat ((It.itK x109000) : Int).toNat]) (It.itK x109000) (It.itP x109001 x109000) x109001) else (none)) else (none)) else (none)) else (none)) else (text_zzSplit.l0 k x0 x5 x6 (It.itP x109001 x109000) x109001)) else (if (x0.size : Int) > 0 then (if 0 ≤ x6 then (if x6 ≤ (x0.size : Int) then (if x5.length < 8796093022208 then (some (x5 ++ [x0.extract (x6 : Int).toNat x0.size])) else (none)) else (none)) else (none)) else (some x5))
def text_zzSplit.l1 : Nat → ByteArray → ByteArray → List ByteArray → Option (List ByteArray)
  | 0, _, _, _ => none
  | k + 1, x0, x1, x5 => (text_zzIndex.f k x0 x1).bind fun t115 => (if t115 < 0 then (if x5.length < 8796093022208 then (some (x5 ++ [x0])) else (none)) else (if 0 ≤ t115 then (if t115 ≤ (x0.size : Int) then (if x5.length < 8796093022208 then (if 0 ≤ (wrap64 (t115 + (x1.size : Int))) then (if (wrap64 (t115 + (x1.size : Int))) ≤ (x0.size : Int) then (text_zzSplit.l1 k (x0.extract ((wrap64 (t115 + (x1.size : Int))) : Int).toNat x0.size) x1 (x5 ++ [x0.extract 0 (t115 : Int).toNat])) else (none)) else (none)) else (none)) else (none)) else (none)))
end
def text_zzSplit.f (k : Nat) (a0 : ByteArray) (a1 : ByteArray) : Option (List ByteArray) := if (a1.size : Int) = 0 then (text_zzSplit.l0 k a0 ([] : List ByteArray) 0 0 a0) else (text_zzSplit.l1 k a0 a1 ([] : List ByteArray))
theorem text_zzSplit.mono_l : ∀ k, (∀ y0 y1 y2 y3 y4, LeO (text_zzSplit.l0 k y0 y1 y2 y3 y4) (text_zzSplit.l0 (k + 1) y0 y1 y2 y3 y4)) ∧ (∀ y0 y1 y2, LeO (text_zzSplit.l1 k y0 y1 y2) (text_zzSplit.l1 (k + 1) y0 y1 y2))
  | 0 => ⟨fun _ _ _ _ _ r h => by simp [text_zzSplit.l0] at h, fun _ _ _ r h => by simp [text_zzSplit.l1] at h⟩
  | k + 1 => by
    obtain ⟨ih0, ih1⟩ := text_zzSplit.mono_l k
    refine ⟨?_, ?_⟩
    · intro y0 y1 y2 y3 y4
      unfold text_zzSplit.l0
      repeat' first
      | (with_reducible exact ih0 _ _ _ _ _)
      | (with_reducible exact ih1 _ _ _)
      | (with_reducible exact text_zzIndex.mono _ _ _)
      | (with_reducible exact LeO.refl _)
      | (with_reducible exact LeO.none _)
      | (with_reducible refine LeO.ite ?_ ?_)
      | (with_reducible refine LeO.bind ?_ (fun _ => ?_))
      | exact ih0 _ _ _ _ _
      | exact ih1 _ _ _
      | exact text_zzIndex.mono _ _ _
      | exact LeO.none _
      | refine LeO.ite ?_ ?_
      | refine LeO.bind ?_ (fun _ => ?_)
    · intro y0 y1 y2
      unfold text_zzSplit.l1
      repeat' first
      | (with_reducible exact ih0 _ _ _ _ _)
      | (with_reducible exact ih1 _ _ _)
      | (with_reducible exact text_zzIndex.mono _ _ _)
      | (with_reducible exact LeO.refl _)
      | (with_reducible exact LeO.none _)
      | (with_reducible refine LeO.ite ?_ ?_)
      | (with_reducible refine LeO.bind ?_ (fun _ => ?_))
      | exact ih0 _ _ _ _ _
      | exact ih1 _ _ _
      | exact text_zzIndex.mono _ _ _
      | exact LeO.none _
      | refine LeO.ite ?_ ?_
      | refine LeO.bind ?_ (fun _ => ?_)
theorem text_zzSplit.mono : ∀ a0 a1 k, LeO (text_zzSplit.f k a0 a1) (text_zzSplit.f (k + 1) a0 a1) := by
  intro a0 a1 k
  obtain ⟨ih0, ih1⟩ := text_zzSplit.mono_l k
  unfold text_zzSplit.f
  repeat' first
      | (with_reducible exact ih0 _ _ _ _ _)
      | (with_reducible exact ih1 _ _ _)
      | (with_reducible exact text_zzIndex.mono _ _ _)
      | (with_reducible exact LeO.refl _)
      | (with_reducible exact LeO.none _)
      | (with_reducible refine LeO.ite ?_ ?_)
      | (with_reducible refine LeO.bind ?_ (fun _ => ?_))
      | exact ih0 _ _ _ _ _
      | exact ih1 _ _ _
      | exact text_zzIndex.mono _ _ _
      | exact LeO.none _
      | refine LeO.ite ?_ ?_
      | refine LeO.bind ?_ (fun _ => ?_)
set_option maxHeartbeats 8000000 in
set_option maxRecDepth 100000 in
theorem text_zzSplit.calls (k : Nat) (a0 : ByteArray) (a1 : ByteArray) (r : List ByteArray) (w : World) (h : text_zzSplit.f k a0 a1 = some r) :
    Calls Try.prog 57 #[.string a0, .string a1] w fun e w' => ∃ v0_ : Value, e = .returned (v0_) ∧ Kd.R Kd.string 9 w' w.heap.size (fun _ => True) v0_ r ∧ Below w.heap.size w w' := by
  have HB := Aside0.mk (Below.refl w.heap.size w)
  have H : (if (a1.size : Int) = 0 then (text_zzSplit.l0 k a0 ([] : List ByteArray) 0 0 a0) else (text_zzSplit.l1 k a0 a1 ([] : List ByteArray))) = some r := h
  clear h
  by_cases c3 : (a1.size : Int) = 0
  · rw [if_pos c3] at H
    have c3b0 : ((a1.size : Int) == 0) = true := beq_iff_eq.mpr c3
    have c3b1 : ((a1.size : Int) != 0) = false := bne_eq_false_iff_eq.mpr c3
    clear c3
    have H' := Aside0.mk H
    clear H
    go_enter Try.func57, Try.ntmps57
    go_wp2_with (first | ((with_reducible refine gate_dst (N := 13) rfl ?_); refine It.range_event ?hg (N := 13) ?hd (s := a0) rfl Try.underlying9 ?hr ?_; (case hd => rfl); (case hg => rfl); (case hr => first | rfl | (go_simp; done) | (go_simp; rfl)); intro gb108 hg w4 hbox hb; have n0_ := Aside0.mk (below_step (by repeat (first | (with_reducible first | exact HB.out | apply below_alloc | apply pw_below_drewN | apply below_drew1) | exact HB.out)) hb); have n1_ := Aside0.mk (hbox); have n2_ := Aside0.mk ((by rw [hg]; exact (below_size (by repeat (first | (with_reducible first | exact HB.out | apply below_alloc | apply pw_below_drewN | apply below_drew1) | exact HB.out))) : w.heap.size ≤ gb108)); have n3_ := Aside0.mk ((by rw [hg]; exact (below_size (by repeat (first | (with_reducible first | exact HB.out | apply below_alloc | apply pw_below_drewN | apply below_drew1) | exact HB.out))) : w.heap.size ≤ gb108)); clear HB; have HB := n0_; have BK108 := n1_; have GW108 := n2_; have GE108 := n3_; clear n0_ n1_ n2_ n3_; clear hb hbox hg))
    (try simp only [Act.put, List.setIfInBounds_toArray, List.set_cons_zero, List.set_cons_succ])
    go_loopg [5, 6] k (fun kq v5 v6 w' => ∃ (x5_1 : List ByteArray) (x6_1 : Int) (x109000_1 : Int), v6 = .int .i64 x6_1 ∧ Aside0 (text_zzSplit.l0 kq a0 x5_1 x6_1 x109000_1 a0 = some r) ∧ Aside0 (kq ≤ k) ∧ Aside0 (Kd.R Kd.string 9 w' w.heap.size (fun _ => True) v5 x5_1) ∧ Aside0 (w'.heap[gb108]? = some (.stringIter a0 (x109000_1 : Int).toNat)) ∧ Aside0 (Below w.heap.size w w'))
    case atStart => exact ⟨(([] : List ByteArray)), (0), (0), (by first | rfl | (simp; done) | (simp [*]; done)), H', ⟨Nat.le_refl _⟩, ⟨by first | exact Kd.R_nil _ _ _ _ _ | exact Kd.N_nil _ _ _ _ _ | exact Kd.V_nil _ _ _ _ _ | exact Kd.Q_nil _ _ _ _ _ | exact Kd.S_nil _ _ _ _ _⟩, ⟨by (with_reducible repeat (first | refine blk_drewN ?_ _ | refine blk_drew ?_ | refine blk_alloc ?_ _)); exact BK108.out⟩, ⟨by repeat (first | (with_reducible first | exact HB.out | apply below_alloc | apply pw_below_drewN | apply below_drew1 | refine below_set ?_ GE108.out) | exact HB.out)⟩⟩
    case round =>
      clear H'
      try clear p2
      try clear c3
      try clear c3b0
      try clear c3b1
      obtain ⟨x5_1, x6_1, x109000_1, rfl, HA, HK1, HO_5, BK108, HB⟩ := hrel
      cases gk with
      | zero => exact absurd HA.out (by simp [text_zzSplit.l0])
      | succ k1 =>
        have H := HA.out
        clear HA
        simp only [text_zzSplit.l0] at H
        by_cases c5 : It.itK x109000_1 < (a0.size : Int)
        · rw [if_pos c5] at H
          have c5b0 : decide (It.itK x109000_1 < (a0.size : Int)) = true := decide_eq_true c5
          clear c5
          by_cases c6 : (It.itK x109000_1) > 0
          · rw [if_pos c6] at H
            have c6b0 : decide (0 < (It.itK x109000_1)) = true := decide_eq_true c6
            clear c6
            by_cases c7 : 0 ≤ x6_1
            · rw [if_pos c7] at H
              have c7b0 := eq_true c7
              have c7b1 : decide (0 ≤ x6_1) = true := decide_eq_true c7
              clear c7
              by_cases c8 : x6_1 ≤ (It.itK x109000_1)
              · rw [if_pos c8] at H
                have c8b0 := eq_true c8
                have c8b1 : decide (x6_1 ≤ (It.itK x109000_1)) = true := decide_eq_true c8
                clear c8
                by_cases c9 : (It.itK x109000_1) ≤ (a0.size : Int)
                · rw [if_pos c9] at H
                  have c9b0 := eq_true c9
                  have c9b1 : decide ((It.itK x109000_1) ≤ (a0.size : Int)) = true := decide_eq_true c9
                  clear c9
                  by_cases c10 : x5_1.length < 8796093022208
                  · rw [if_pos c10] at H
                    have LMc10 := Aside0.mk c10
                    clear c10
                    obtain ⟨y109, hy109⟩ : ∃ y_ : List ByteArray, y_ = (x5_1 ++ [a0.extract (x6_1 : Int).toNat ((It.itK x109000_1) : Int).toNat]) := ⟨_, rfl⟩
                    replace H : (text_zzSplit.l0 k1 a0 y109 (It.itK x109000_1) (It.itP a0 x109000_1) a0) = some r := by first | (rw [hy109]; with_reducible exact H) | (have H2_ := (Option.bind_some _ _).symm.trans H; rw [hy109]; with_reducible exact H2_) | (have H2_ := (Option.bind_some _ _).symm.trans H; with_reducible exact H2_) | with_reducible exact H | (rw [hy109]; exact H) | exact H
                    have Ny109 := Aside0.mk hy109
                    clear hy109
                    have H' := Aside0.mk H
                    clear H
                    go_wp2_with (first | ((with_reducible refine gate_dst (N := 14) rfl ?_); refine It.next_yes ?hg (N := 14) ?hd (g := gb108) (s := a0) (pos := x109000_1) rfl ?hr (by (with_reducible repeat (first | refine blk_drewN ?_ _ | refine blk_drew ?_ | refine blk_alloc ?_ _)); exact BK108.out) (of_decide_eq_true (by first | (with_reducible assumption) | assumption)) ?_; (case hd => rfl); (case hg => rfl); (case hr => first | rfl | (go_simp; done) | (go_simp; rfl)); intro w11 hg_ hbox; have n0_ := Aside0.mk (It.R_iter (by (with_reducible repeat (first | apply Kd.R_alloc | apply Kd.R_drewN | apply Kd.R_drew)); exact HO_5.out) (by (with_reducible repeat (first | refine blk_drewN ?_ _ | refine blk_drew ?_ | refine blk_alloc ?_ _)); exact BK108.out) hg_); have n1_ := Aside0.mk (hbox); have n2_ := Aside0.mk (It.below_iter (by repeat (first | (with_reducible first | exact HB.out | apply below_alloc | apply pw_below_drewN | apply below_drew1 | refine below_set ?_ GE108.out) | exact HB.out)) (below_size (by repeat (first | (with_reducible first | exact HB.out | apply below_alloc | apply pw_below_drewN | apply below_drew1 | refine below_set ?_ GE108.out) | exact HB.out))) hg_ GE108.out); clear HO_5; clear BK108; clear HB; have HO_5 := n0_; have BK108 := n1_; have HB := n2_; clear n0_ n1_ n2_; clear hg_ hbox) | ((with_reducible refine gate_builtin (b := .append) (xs := #[.tmp 19, .tmp 24]) rfl ?_); at_builtin; refine Kd.R_append Kd.string (w0 := w) w.heap.size rfl (.tmp 19) (.tmp 24) 34 9 (.string ⟨#[]⟩) 16 rfl Try.underlying34 info9 rfl (by decide) (by omega) u5 x5_1 (a0.extract (x6_1 : Int).toNat ((It.itK x109000_1) : Int).toNat) [.string (a0.extract (x6_1 : Int).toNat ((It.itK x109000_1) : Int).toNat)] (fun _ => True) (fun _ => False) rfl rfl ?aP (fun _ hk => hk.elim) ?aF ?aO ?aB ?aS ?aL ?_; (case aP => exact rfl); (case aB => exact (by repeat (first | (with_reducible first | exact HB.out | apply below_alloc | apply pw_below_drewN | apply below_drew1 | refine below_set ?_ GE108.out) | exact HB.out))); (case aF => exact (fun _ _ => trivial)); (case aO => exact (by (with_reducible repeat (first | apply Kd.R_alloc | apply Kd.R_drewN | apply Kd.R_drew)); exact HO_5.out)); (case aS => exact (below_size (by repeat (first | (with_reducible first | exact HB.out | apply below_alloc | apply pw_below_drewN | apply below_drew1 | refine below_set ?_ GE108.out) | exact HB.out)))); (case aL => have := LMc10.out; omega); intro v110 w12 ho hb hg hat; rw [← Ny109.out] at ho; have n0_ := Aside0.mk (blk_grown (g := gb108) (o := .stringIter a0 (It.itP a0 x109000_1 : Int).toNat) (by (with_reducible repeat (first | refine blk_drewN ?_ _ | refine blk_drew ?_ | refine blk_alloc ?_ _)); exact BK108.out) hg (It.R_ne HO_5.out BK108.out)); have n1_ := Aside0.mk (hb); have n2_ := Aside0.mk (ho); clear BK108; clear HB; clear HO_5; have BK108 := n0_; have HB := n1_; have HO111 := n2_; clear n0_ n1_ n2_; clear ho hb hg hat))
                    go_roundg k1
                    case measure => have := HK1.out; omega
                    case rel => exact ⟨(y109), (It.itK x109000_1), (It.itP a0 x109000_1), (by first | rfl | (simp; done) | (simp [*]; done)), H', ⟨by have := HK1.out; omega⟩, ⟨by (with_reducible repeat (first | apply Kd.R_alloc | apply Kd.R_drewN | apply Kd.R_drew)); exact HO111.out⟩, ⟨by (with_reducible repeat (first | refine blk_drewN ?_ _ | refine blk_drew ?_ | refine blk_alloc ?_ _)); exact BK108.out⟩, ⟨by repeat (first | (with_reducible first | exact HB.out | apply below_alloc | apply pw_below_drewN | apply below_drew1 | refine below_set ?_ GE108.out) | exact HB.out)⟩⟩
                  · rw [if_neg c10] at H
                    exact absurd H (by simp)
                · rw [if_neg c9] at H
                  exact absurd H (by simp)
              · rw [if_neg c8] at H
                exact absurd H (by simp)
            · rw [if_neg c7] at H
              exact absurd H (by simp)
          · rw [if_neg c6] at H
            have c6b0 : decide (0 < (It.itK x109000_1)) = false := decide_eq_false c6
            clear c6
            have H' := Aside0.mk H
            clear H
            go_wp2_with (first | ((with_reducible refine gate_dst (N := 14) rfl ?_); refine It.next_yes ?hg (N := 14) ?hd (g := gb108) (s := a0) (pos := x109000_1) rfl ?hr (by (with_reducible repeat (first | refine blk_drewN ?_ _ | refine blk_drew ?_ | refine blk_alloc ?_ _)); exact BK108.out) (of_decide_eq_true (by first | (with_reducible assumption) | assumption)) ?_; (case hd => rfl); (case hg => rfl); (case hr => first | rfl | (go_simp; done) | (go_simp; rfl)); intro w13 hg_ hbox; have n0_ := Aside0.mk (It.R_iter (by (with_reducible repeat (first | apply Kd.R_alloc | apply Kd.R_drewN | apply Kd.R_drew)); exact HO_5.out) (by (with_reducible repeat (first | refine blk_drewN ?_ _ | refine blk_drew ?_ | refine blk_alloc ?_ _)); exact BK108.out) hg_); have n1_ := Aside0.mk (hbox); have n2_ := Aside0.mk (It.below_iter (by repeat (first | (with_reducible first | exact HB.out | apply below_alloc | apply pw_below_drewN | apply below_drew1 | refine below_set ?_ GE108.out) | exact HB.out)) (below_size (by repeat (first | (with_reducible first | exact HB.out | apply below_alloc | apply pw_below_drewN | apply below_drew1 | refine below_set ?_ GE108.out) | exact HB.out))) hg_ GE108.out); clear HO_5; clear BK108; clear HB; have HO_5 := n0_; have BK108 := n1_; have HB := n2_; clear n0_ n1_ n2_; clear hg_ hbox))
            go_roundg k1
            case measure => have := HK1.out; omega
            case rel => exact ⟨(x5_1), (x6_1), (It.itP a0 x109000_1), (by first | rfl | (simp; done) | (simp [*]; done)), H', ⟨by have := HK1.out; omega⟩, ⟨by (with_reducible repeat (first | apply Kd.R_alloc | apply Kd.R_drewN | apply Kd.R_drew)); exact HO_5.out⟩, ⟨by (with_reducible repeat (first | refine blk_drewN ?_ _ | refine blk_drew ?_ | refine blk_alloc ?_ _)); exact BK108.out⟩, ⟨by repeat (first | (with_reducible first | exact HB.out | apply below_alloc | apply pw_below_drewN | apply below_drew1 | refine below_set ?_ GE108.out) | exact HB.out)⟩⟩
        · rw [if_neg c5] at H
          have c5b0 : decide (It.itK x109000_1 < (a0.size : Int)) = false := decide_eq_false c5
          clear c5
          by_cases c14 : (a0.size : Int) > 0
          · rw [if_pos c14] at H
            have c14b0 : decide (0 < (a0.size : Int)) = true := decide_eq_true c14
            have c14b1 : decide (0 < a0.size) = true := decide_eq_true (by omega)
            clear c14
            by_cases c15 : 0 ≤ x6_1
            · rw [if_pos c15] at H
              have c15b0 := eq_true c15
              have c15b1 : decide (0 ≤ x6_1) = true := decide_eq_true c15
              clear c15
              by_cases c16 : x6_1 ≤ (a0.size : Int)
              · rw [if_pos c16] at H
                have c16b0 := eq_true c16
                have c16b1 : decide (x6_1 ≤ (a0.size : Int)) = true := decide_eq_true c16
                clear c16
                by_cases c17 : x5_1.length < 8796093022208
                · rw [if_pos c17] at H
                  have LMc17 := Aside0.mk c17
                  clear c17
                  obtain ⟨y112, hy112⟩ : ∃ y_ : List ByteArray, y_ = (x5_1 ++ [a0.extract (x6_1 : Int).toNat a0.size]) := ⟨_, rfl⟩
                  replace H : (some y112) = some r := by first | (rw [hy112]; with_reducible exact H) | (have H2_ := (Option.bind_some _ _).symm.trans H; rw [hy112]; with_reducible exact H2_) | (have H2_ := (Option.bind_some _ _).symm.trans H; with_reducible exact H2_) | with_reducible exact H | (rw [hy112]; exact H) | exact H
                  have Ny112 := Aside0.mk hy112
                  clear hy112
                  obtain rfl := Option.some.inj H
                  go_wp2_with (first | ((with_reducible refine gate_dst (N := 14) rfl ?_); refine It.next_no ?hg (N := 14) ?hd (g := gb108) (s := a0) (pos := x109000_1) rfl ?hr (by (with_reducible repeat (first | refine blk_drewN ?_ _ | refine blk_drew ?_ | refine blk_alloc ?_ _)); exact BK108.out) (of_decide_eq_false (by first | (with_reducible assumption) | assumption)) ?_; (case hd => rfl); (case hg => rfl); (case hr => first | rfl | (go_simp; done) | (go_simp; rfl))) | ((with_reducible refine gate_builtin (b := .append) (xs := #[.tmp 30, .tmp 34]) rfl ?_); at_builtin; refine Kd.R_append Kd.string (w0 := w) w.heap.size rfl (.tmp 30) (.tmp 34) 34 9 (.string ⟨#[]⟩) 16 rfl Try.underlying34 info9 rfl (by decide) (by omega) u5 x5_1 (a0.extract (x6_1 : Int).toNat a0.size) [.string (a0.extract (x6_1 : Int).toNat a0.size)] (fun _ => True) (fun _ => False) rfl rfl ?aP (fun _ hk => hk.elim) ?aF ?aO ?aB ?aS ?aL ?_; (case aP => exact rfl); (case aB => exact (by repeat (first | (with_reducible first | exact HB.out | apply below_alloc | apply pw_below_drewN | apply below_drew1 | refine below_set ?_ GE108.out) | exact HB.out))); (case aF => exact (fun _ _ => trivial)); (case aO => exact (by (with_reducible repeat (first | apply Kd.R_alloc | apply Kd.R_drewN | apply Kd.R_drew)); exact HO_5.out)); (case aS => exact (below_size (by repeat (first | (with_reducible first | exact HB.out | apply below_alloc | apply pw_below_drewN | apply below_drew1 | refine below_set ?_ GE108.out) | exact HB.out)))); (case aL => have := LMc17.out; omega); intro v113 w18 ho hb hg hat; rw [← Ny112.out] at ho; have n0_ := Aside0.mk (blk_grown (g := gb108) (o := .stringIter a0 (x109000_1 : Int).toNat) (by (with_reducible repeat (first | refine blk_drewN ?_ _ | refine blk_drew ?_ | refine blk_alloc ?_ _)); exact BK108.out) hg (It.R_ne HO_5.out BK108.out)); have n1_ := Aside0.mk (hb); have n2_ := Aside0.mk (ho); clear BK108; clear HB; clear HO_5; have BK108 := n0_; have HB := n1_; have HO114 := n2_; clear n0_ n1_ n2_; clear ho hb hg hat))
                  go_ret
                  exact ⟨_, by first | rfl | (simp [errW_none, errW_some] <;> rfl) | (simp [*, errW_none, errW_some] <;> rfl), by (with_reducible repeat (first | apply Kd.R_alloc | apply Kd.R_drewN | apply Kd.R_drew)); exact HO114.out, by repeat (first | (with_reducible first | exact HB.out | apply below_alloc | apply pw_below_drewN | apply below_drew1 | refine below_set ?_ GE108.out) | exact HB.out)⟩
                · rw [if_neg c17] at H
                  exact absurd H (by simp)
              · rw [if_neg c16] at H
                exact absurd H (by simp)
            · rw [if_neg c15] at H
              exact absurd H (by simp)
          · rw [if_neg c14] at H
            have c14b0 : decide (0 < (a0.size : Int)) = false := decide_eq_false c14
            have c14b1 : decide (0 < a0.size) = false := decide_eq_false (by omega)
            clear c14
            obtain rfl := Option.some.inj H
            go_wp2_with (first | ((with_reducible refine gate_dst (N := 14) rfl ?_); refine It.next_no ?hg (N := 14) ?hd (g := gb108) (s := a0) (pos := x109000_1) rfl ?hr (by (with_reducible repeat (first | refine blk_drewN ?_ _ | refine blk_drew ?_ | refine blk_alloc ?_ _)); exact BK108.out) (of_decide_eq_false (by first | (with_reducible assumption) | assumption)) ?_; (case hd => rfl); (case hg => rfl); (case hr => first | rfl | (go_simp; done) | (go_simp; rfl))))
            go_ret
            exact ⟨_, by first | rfl | (simp [errW_none, errW_some] <;> rfl) | (simp [*, errW_none, errW_some] <;> rfl), by (with_reducible repeat (first | apply Kd.R_alloc | apply Kd.R_drewN | apply Kd.R_drew)); exact HO_5.out, by repeat (first | (with_reducible first | exact HB.out | apply below_alloc | apply pw_below_drewN | apply below_drew1 | refine below_set ?_ GE108.out) | exact HB.out)⟩
  · rw [if_neg c3] at H
    have c3b0 : ((a1.size : Int) == 0) = false := beq_eq_false_iff_ne.mpr c3
    have c3b1 : ((a1.size : Int) != 0) = true := bne_iff_ne.mpr c3
    have H' := Aside0.mk H
    clear H
    go_enter Try.func57, Try.ntmps57
    go_wp2
    go_loopg [0, 5] k (fun kq v0 v5 w' => ∃ (x0_1 : ByteArray) (x5_1 : List ByteArray), v0 = .string x0_1 ∧ Aside0 (text_zzSplit.l1 kq x0_1 a1 x5_1 = some r) ∧ Aside0 (kq ≤ k) ∧ Aside0 (Kd.R Kd.string 9 w' w.heap.size (fun _ => True) v5 x5_1) ∧ Aside0 (Below w.heap.size w w'))
    case atStart => exact ⟨(a0), (([] : List ByteArray)), (by first | rfl | (simp; done) | (simp [*]; done)), H', ⟨Nat.le_refl _⟩, ⟨by first | exact Kd.R_nil _ _ _ _ _ | exact Kd.N_nil _ _ _ _ _ | exact Kd.V_nil _ _ _ _ _ | exact Kd.Q_nil _ _ _ _ _ | exact Kd.S_nil _ _ _ _ _⟩, ⟨by repeat (first | (with_reducible first | exact HB.out | apply below_alloc | apply pw_below_drewN | apply below_drew1) | exact HB.out)⟩⟩
    case round =>
      clear H'
      try clear c1
      try clear p2
      try clear c3
      try clear c3b0
      try clear c3b1
      try clear c5
      try clear c5b0
      try clear c6
      try clear c6b0
      try clear c7
      try clear c7b0
      try clear c7b1
      try clear c8
      try clear c8b0
      try clear c8b1
      try clear c9
      try clear c9b0
      try clear c9b1
      try clear c10
      try clear c14
      try clear c14b0
      try clear c14b1
      try clear c15
      try clear c15b0
      try clear c15b1
      try clear c16
      try clear c16b0
      try clear c16b1
      try clear c17
      try clear p2
      obtain ⟨x0_1, x5_1, rfl, HA, HK1, HO_5, HB⟩ := hrel
      cases gk with
      | zero => exact absurd HA.out (by simp [text_zzSplit.l1])
      | succ k1 =>
        have H := HA.out
        clear HA
        simp only [text_zzSplit.l1] at H
        replace H := Option.bind_eq_some_iff.mp H
        obtain ⟨t115, A190, H⟩ := H
        replace H : (if t115 < 0 then (if x5_1.length < 8796093022208 then (some (x5_1 ++ [x0_1])) else (none)) else (if 0 ≤ t115 then (if t115 ≤ (x0_1.size : Int) then (if x5_1.length < 8796093022208 then (if 0 ≤ (wrap64 (t115 + (a1.size : Int))) then (if (wrap64 (t115 + (a1.size : Int))) ≤ (x0_1.size : Int) then (text_zzSplit.l1 k1 (x0_1.extract ((wrap64 (t115 + (a1.size : Int))) : Int).toNat x0_1.size) a1 (x5_1 ++ [x0_1.extract 0 (t115 : Int).toNat])) else (none)) else (none)) else (none)) else (none)) else (none))) = some r := H
        have A19 := Aside0.mk A190
        clear A190
        by_cases c20 : t115 < 0
        · rw [if_pos c20] at H
          have c20b0 : decide (t115 < 0) = true := decide_eq_true c20
          clear c20
          by_cases c21 : x5_1.length < 8796093022208
          · rw [if_pos c21] at H
            have LMc21 := Aside0.mk c21
            clear c21
            obtain ⟨y116, hy116⟩ : ∃ y_ : List ByteArray, y_ = (x5_1 ++ [x0_1]) := ⟨_, rfl⟩
            replace H : (some y116) = some r := by first | (rw [hy116]; with_reducible exact H) | (have H2_ := (Option.bind_some _ _).symm.trans H; rw [hy116]; with_reducible exact H2_) | (have H2_ := (Option.bind_some _ _).symm.trans H; with_reducible exact H2_) | with_reducible exact H | (rw [hy116]; exact H) | exact H
            have Ny116 := Aside0.mk hy116
            clear hy116
            obtain rfl := Option.some.inj H
            go_wp2_with (first | ((with_reducible refine gate_callee (f := 72) rfl ?_); refine goesL_ (some 39) rfl rfl Try.func72 (by kernel_rfl) rfl #[.string x0_1, .string a1] rfl (by (try simp only [List.map_toArray, List.map_cons, List.map_nil]); first | done | rfl | (simp only [List.length_drop, List.length_take]; rfl)) ?_; (with_reducible refine (text_zzIndex.calls k1 x0_1 a1 t115 _ A19.out).mono ?_); rintro e w' ⟨rfl, ⟨nd, rfl⟩⟩; refine ⟨_, rfl, ?_⟩) | ((with_reducible refine gate_builtin (b := .append) (xs := #[.tmp 42, .tmp 44]) rfl ?_); at_builtin; refine Kd.R_append Kd.string (w0 := w) w.heap.size rfl (.tmp 42) (.tmp 44) 34 9 (.string ⟨#[]⟩) 16 rfl Try.underlying34 info9 rfl (by decide) (by omega) u5 x5_1 x0_1 [.string x0_1] (fun _ => True) (fun _ => False) rfl rfl ?aP (fun _ hk => hk.elim) ?aF ?aO ?aB ?aS ?aL ?_; (case aP => exact rfl); (case aB => exact (by repeat (first | (with_reducible first | exact HB.out | apply below_alloc | apply pw_below_drewN | apply below_drew1) | exact HB.out))); (case aF => exact (fun _ _ => trivial)); (case aO => exact (by (with_reducible repeat (first | apply Kd.R_alloc | apply Kd.R_drewN | apply Kd.R_drew)); exact HO_5.out)); (case aS => exact (below_size (by repeat (first | (with_reducible first | exact HB.out | apply below_alloc | apply pw_below_drewN | apply below_drew1) | exact HB.out)))); (case aL => have := LMc21.out; omega); intro v117 w22 ho hb hg hat; rw [← Ny116.out] at ho; have n0_ := Aside0.mk (hb); have n1_ := Aside0.mk (ho); clear HB; clear HO_5; have HB := n0_; have HO118 := n1_; clear n0_ n1_; clear ho hb hg hat))
            go_ret
            exact ⟨_, by first | rfl | (simp [errW_none, errW_some] <;> rfl) | (simp [*, errW_none, errW_some] <;> rfl), by (with_reducible repeat (first | apply Kd.R_alloc | apply Kd.R_drewN | apply Kd.R_drew)); exact HO118.out, by repeat (first | (with_reducible first | exact HB.out | apply below_alloc | apply pw_below_drewN | apply below_drew1) | exact HB.out)⟩
          · rw [if_neg c21] at H
            exact absurd H (by simp)
        · rw [if_neg c20] at H
          have c20b0 : decide (t115 < 0) = false := decide_eq_false c20
          clear c20
          by_cases c23 : 0 ≤ t115
          · rw [if_pos c23] at H
            have c23b0 := eq_true c23
            have c23b1 : decide (0 ≤ t115) = true := decide_eq_true c23
            clear c23
            by_cases c24 : t115 ≤ (x0_1.size : Int)
            · rw [if_pos c24] at H
              have c24b0 := eq_true c24
              have c24b1 : decide (t115 ≤ (x0_1.size : Int)) = true := decide_eq_true c24
              clear c24
              by_cases c25 : x5_1.length < 8796093022208
              · rw [if_pos c25] at H
                have LMc25 := Aside0.mk c25
                clear c25
                obtain ⟨y119, hy119⟩ : ∃ y_ : List ByteArray, y_ = (x5_1 ++ [x0_1.extract 0 (t115 : Int).toNat]) := ⟨_, rfl⟩
                replace H : (if 0 ≤ (wrap64 (t115 + (a1.size : Int))) then (if (wrap64 (t115 + (a1.size : Int))) ≤ (x0_1.size : Int) then (text_zzSplit.l1 k1 (x0_1.extract ((wrap64 (t115 + (a1.size : Int))) : Int).toNat x0_1.size) a1 y119) else (none)) else (none)) = some r := by first | (rw [hy119]; with_reducible exact H) | (have H2_ := (Option.bind_some _ _).symm.trans H; rw [hy119]; with_reducible exact H2_) | (have H2_ := (Option.bind_some _ _).symm.trans H; with_reducible exact H2_) | with_reducible exact H | (rw [hy119]; exact H) | exact H
                have Ny119 := Aside0.mk hy119
                clear hy119
                obtain ⟨ji26, hji26⟩ : ∃ j_ : Int, (wrap64 (t115 + (a1.size : Int))) = j_ := ⟨_, rfl⟩
                replace H : (if 0 ≤ (ji26) then (if (ji26) ≤ (x0_1.size : Int) then (text_zzSplit.l1 k1 (x0_1.extract ((ji26) : Int).toNat x0_1.size) a1 y119) else (none)) else (none)) = some r := by first | (rw [hji26] at H; exact H) | (simp only [hji26] at H ⊢; exact H)
                (try rw [hji26] at A19)
                have hji26w : (IntKind.i64.wrap (t115 + (a1.size : Int))) = ji26 := (i64_w _).trans hji26
                by_cases c27 : 0 ≤ (ji26)
                · rw [if_pos c27] at H
                  have c27b0 := eq_true c27
                  have c27b1 : decide (0 ≤ (ji26)) = true := decide_eq_true c27
                  clear c27
                  by_cases c28 : (ji26) ≤ (x0_1.size : Int)
                  · rw [if_pos c28] at H
                    have c28b0 := eq_true c28
                    have c28b1 : decide ((ji26) ≤ (x0_1.size : Int)) = true := decide_eq_true c28
                    clear c28
                    have H' := Aside0.mk H
                    clear H
                    go_wp2_with (first | ((with_reducible refine gate_callee (f := 72) rfl ?_); refine goesL_ (some 39) rfl rfl Try.func72 (by kernel_rfl) rfl #[.string x0_1, .string a1] rfl (by (try simp only [List.map_toArray, List.map_cons, List.map_nil]); first | done | rfl | (simp only [List.length_drop, List.length_take]; rfl)) ?_; (with_reducible refine (text_zzIndex.calls k1 x0_1 a1 t115 _ A19.out).mono ?_); rintro e w' ⟨rfl, ⟨nd, rfl⟩⟩; refine ⟨_, rfl, ?_⟩) | ((with_reducible refine gate_builtin (b := .append) (xs := #[.tmp 46, .tmp 50]) rfl ?_); at_builtin; refine Kd.R_append Kd.string (w0 := w) w.heap.size rfl (.tmp 46) (.tmp 50) 34 9 (.string ⟨#[]⟩) 16 rfl Try.underlying34 info9 rfl (by decide) (by omega) u5 x5_1 (x0_1.extract 0 (t115 : Int).toNat) [.string (x0_1.extract 0 (t115 : Int).toNat)] (fun _ => True) (fun _ => False) rfl rfl ?aP (fun _ hk => hk.elim) ?aF ?aO ?aB ?aS ?aL ?_; (case aP => exact rfl); (case aB => exact (by repeat (first | (with_reducible first | exact HB.out | apply below_alloc | apply pw_below_drewN | apply below_drew1) | exact HB.out))); (case aF => exact (fun _ _ => trivial)); (case aO => exact (by (with_reducible repeat (first | apply Kd.R_alloc | apply Kd.R_drewN | apply Kd.R_drew)); exact HO_5.out)); (case aS => exact (below_size (by repeat (first | (with_reducible first | exact HB.out | apply below_alloc | apply pw_below_drewN | apply below_drew1) | exact HB.out)))); (case aL => have := LMc25.out; omega); intro v120 w29 ho hb hg hat; rw [← Ny119.out] at ho; have n0_ := Aside0.mk (hb); have n1_ := Aside0.mk (ho); clear HB; clear HO_5; have HB := n0_; have HO121 := n1_; clear n0_ n1_; clear ho hb hg hat))
                    go_roundg k1
                    case measure => have := HK1.out; omega
                    case rel => exact ⟨(x0_1.extract ((ji26) : Int).toNat x0_1.size), (y119), (by first | rfl | (simp; done) | (simp only [← hji26] <;> (first | rfl | simp)) | (simp [*]; done)), H', ⟨by have := HK1.out; omega⟩, ⟨by (with_reducible repeat (first | apply Kd.R_alloc | apply Kd.R_drewN | apply Kd.R_drew)); exact HO121.out⟩, ⟨by repeat (first | (with_reducible first | exact HB.out | apply below_alloc | apply pw_below_drewN | apply below_drew1) | exact HB.out)⟩⟩
                  · rw [if_neg c28] at H
                    exact absurd H (by simp)
                · rw [if_neg c27] at H
                  exact absurd H (by simp)
              · rw [if_neg c25] at H
                exact absurd H (by simp)
            · rw [if_neg c24] at H
              exact absurd H (by simp)
          · rw [if_neg c23] at H
            exact absurd H (by simp)

-- BY HAND: function 58 (strings_Repeat)

/-! ### text_VAlign_Apply: function 36 -/
mutual
def text_VAlign_Apply.j0 : Nat → Int → List ByteArray → Int → Option (List ByteArray)
  | 0, _, _, _ => none
  | k + 1, x0, x1, x2 => if x2 < 1 then (some x1) else (if x0 = 2 then (text_VAlign_Apply.j1 k x1 x2 (wrap64 (Int.tdiv (wrap64 (x2 - (x1.length : Int))) 2))) else (if x0 = 3 then (text_VAlign_Apply.j1 k x1 x2 (wrap64 (x2 - (x1.length : Int)))) else (text_VAlign_Apply.j1 k x1 x2 0)))
def text_VAlign_Apply.j1 : Nat → List ByteArray → Int → Int → Option (List ByteArray)
  | 0, _, _, _ => none
  | k + 1, x1, x2, x7 => (strings_Repeat.f (⟨#[10]⟩ : ByteArray) (wrap64 (x2 - 1))).bind fun t122 => ((text_zzSplit.f k t122 (⟨#[10]⟩ : ByteArray)).bind fun t123 => (text_VAlign_Apply.l0 k x7 t123 x1 (x1.length : Int) 0))
def text_VAlign_Apply.l0 : Nat → Int → List ByteArray → List ByteArray → Int → Int → Option (List ByteArray)
  | 0, _, _, _, _, _ => none
  | k + 1, x7, x8, x43, x44, x45 => if x45 < x44 then (if 0 ≤ x45 then (if x45 < (x43.length : Int) then (if 0 ≤ (wrap64 (x45 + x7)) then (if (wrap64 (x45 + x7)) < (x8.length : Int) then (text_VAlign_Apply.l0 k x7 (x8.set ((wrap64 (x45 + x7)) : Int).toNat (rdOf ByteArray.empty x43 x45)) x43 x44 (wrap64 (x45 + 1))) else (none)) else (none)) else (none)) else (none)) else (some x8)
end
def text_VAlign_Apply.f (k : Nat) (a0 : Int) (l1 : List ByteArray) (a2 : Int) : Option (List ByteArray) := if (l1.length : Int) = a2 then (some l1) else (if (l1.length : Int) > a2 then (text_VAlign_Apply.j0 k a0 l1 (l1.length : Int)) else (text_VAlign_Apply.j0 k a0 l1 a2))
theorem text_VAlign_Apply.mono_l : ∀ k, (∀ y0 y1 y2, LeO (text_VAlign_Apply.j0 k y0 y1 y2) (text_VAlign_Apply.j0 (k + 1) y0 y1 y2)) ∧ (∀ y0 y1 y2, LeO (text_VAlign_Apply.j1 k y0 y1 y2) (text_VAlign_Apply.j1 (k + 1) y0 y1 y2)) ∧ (∀ y0 y1 y2 y3 y4, LeO (text_VAlign_Apply.l0 k y0 y1 y2 y3 y4) (text_VAlign_Apply.l0 (k + 1) y0 y1 y2 y3 y4))
  | 0 => ⟨fun _ _ _ r h => by simp [text_VAlign_Apply.j0] at h, fun _ _ _ r h => by simp [text_VAlign_Apply.j1] at h, fun _ _ _ _ _ r h => by simp [text_VAlign_Apply.l0] at h⟩
  | k + 1 => by
    obtain ⟨ih0, ih1, ih2⟩ := text_VAlign_Apply.mono_l k
    refine ⟨?_, ?_, ?_⟩
    · intro y0 y1 y2
      unfold text_VAlign_Apply.j0
      repeat' first
      | (with_reducible exact ih0 _ _ _)
      | (with_reducible exact ih1 _ _ _)
      | (with_reducible exact ih2 _ _ _ _ _)
      | (with_reducible exact text_zzSplit.mono _ _ _)
      | (with_reducible exact LeO.refl _)
      | (with_reducible exact LeO.none _)
      | (with_reducible refine LeO.ite ?_ ?_)
      | (with_reducible refine LeO.bind ?_ (fun _ => ?_))
      | exact ih0 _ _ _
      | exact ih1 _ _ _
      | exact ih2 _ _ _ _ _
      | exact text_zzSplit.mono _ _ _
      | exact LeO.none _
      | refine LeO.ite ?_ ?_
      | refine LeO.bind ?_ (fun _ => ?_)
    · intro y0 y1 y2
      unfold text_VAlign_Apply.j1
      repeat' first
      | (with_reducible exact ih0 _ _ _)
      | (with_reducible exact ih1 _ _ _)
      | (with_reducible exact ih2 _ _ _ _ _)
      | (with_reducible exact text_zzSplit.mono _ _ _)
      | (with_reducible exact LeO.refl _)
      | (with_reducible exact LeO.none _)
      | (with_reducible refine LeO.ite ?_ ?_)
      | (with_reducible refine LeO.bind ?_ (fun _ => ?_))
      | exact ih0 _ _ _
      | exact ih1 _ _ _
      | exact ih2 _ _ _ _ _
      | exact text_zzSplit.mono _ _ _
      | exact LeO.none _
      | refine LeO.ite ?_ ?_
      | refine LeO.bind ?_ (fun _ => ?_)
    · intro y0 y1 y2 y3 y4
      unfold text_VAlign_Apply.l0
      repeat' first
      | (with_reducible exact ih0 _ _ _)
      | (with_reducible exact ih1 _ _ _)
      | (with_reducible exact ih2 _ _ _ _ _)
      | (with_reducible exact text_zzSplit.mono _ _ _)
      | (with_reducible exact LeO.refl _)
      | (with_reducible exact LeO.none _)
      | (with_reducible refine LeO.ite ?_ ?_)
      | (with_reducible refine LeO.bind ?_ (fun _ => ?_))
      | exact ih0 _ _ _
      | exact ih1 _ _ _
      | exact ih2 _ _ _ _ _
      | exact text_zzSplit.mono _ _ _
      | exact LeO.none _
      | refine LeO.ite ?_ ?_
      | refine LeO.bind ?_ (fun _ => ?_)
theorem text_VAlign_Apply.mono : ∀ a0 a1 a2 k, LeO (text_VAlign_Apply.f k a0 a1 a2) (text_VAlign_Apply.f (k + 1) a0 a1 a2) := by
  intro a0 a1 a2 k
  obtain ⟨ih0, ih1, ih2⟩ := text_VAlign_Apply.mono_l k
  unfold text_VAlign_Apply.f
  repeat' first
      | (with_reducible exact ih0 _ _ _)
      | (with_reducible exact ih1 _ _ _)
      | (with_reducible exact ih2 _ _ _ _ _)
      | (with_reducible exact text_zzSplit.mono _ _ _)
      | (with_reducible exact LeO.refl _)
      | (with_reducible exact LeO.none _)
      | (with_reducible refine LeO.ite ?_ ?_)
      | (with_reducible refine LeO.bind ?_ (fun _ => ?_))
      | exact ih0 _ _ _
      | exact ih1 _ _ _
      | exact ih2 _ _ _ _ _
      | exact text_zzSplit.mono _ _ _
      | exact LeO.none _
      | refine LeO.ite ?_ ?_
      | refine LeO.bind ?_ (fun _ => ?_)
set_option maxHeartbeats 8000000 in
set_option maxRecDepth 100000 in
theorem text_VAlign_Apply.calls (k : Nat) (a0 : Int) (P1_ : Nat → Prop) (u9000_ : Value) (l1 : List ByteArray) (a2 : Int) (r : List ByteArray) (w0 w : World) (hB : Below w0.heap.size w0 w) (ho1 : Kd.R Kd.string 9 w w0.heap.size P1_ u9000_ l1) (h : text_VAlign_Apply.f k a0 l1 a2 = some r) :
    Calls Try.prog 36 #[.int .i64 a0, u9000_, .int .i64 a2] w fun e w' => ∃ v0_ : Value, e = .returned (v0_) ∧ Kd.R Kd.string 9 w' w0.heap.size (fun k_ => (P1_ k_ ∨ w.heap.size ≤ k_)) v0_ r ∧ Below w0.heap.size w0 w' ∧ Kept w w' (fun k_ => P1_ k_) := by
  have HO1 := Aside0.mk (show Kd.R Kd.string 9 w w0.heap.size (fun k_ => (P1_ k_ ∨ w.heap.size ≤ k_)) u9000_ l1 from Kd.R_mono ho1 (fun k_ hk => (.inl hk)))
  have HK := Aside0.mk (Kept.refl w (fun k_ => P1_ k_))
  have HW0 := Aside0.mk hB.size
  have HB := Aside0.mk hB
  clear hB
  have H : (if (l1.length : Int) = a2 then (some l1) else (if (l1.length : Int) > a2 then (text_VAlign_Apply.j0 k a0 l1 (l1.length : Int)) else (text_VAlign_Apply.j0 k a0 l1 a2))) = some r := h
  clear h
  have HC4 := Aside0.mk H
  clear H
  obtain ⟨Ao5, co5, eo5⟩ := Kd.R_slice HO1.out
  subst eo5
  go_enter Try.func36, Try.ntmps36
  go_upto_if 14 with (fail)
  go_cut [2] (fun v2 wc => ∃ (kq : Nat) (x2_3 : Int), v2 = .int .i64 x2_3 ∧ Aside0 (text_VAlign_Apply.j0 kq a0 l1 x2_3 = some r) ∧ Aside0 (kq ≤ k) ∧ Aside0 (Kd.R Kd.string 9 wc w0.heap.size (fun k_ => (P1_ k_ ∨ w.heap.size ≤ k_)) (.slice Ao5 l1.length co5) l1) ∧ Aside0 (Kept w wc (fun k_ => P1_ k_)) ∧ Aside0 (Below w0.heap.size w0 wc))
  case first =>
    have H := HC4.out
    clear HC4
    by_cases c6 : (l1.length : Int) = a2
    · rw [if_pos c6] at H
      have c6b0 : ((l1.length : Int) == a2) = true := beq_iff_eq.mpr c6
      have c6b1 : ((l1.length : Int) != a2) = false := bne_eq_false_iff_eq.mpr c6
      clear c6
      (first | rw [c6b0] | (simp only [i64_w, i32_w]; rw [c6b0]) | skip)
      obtain rfl := Option.some.inj H
      go_wp2
      go_ret
      exact ⟨_, by first | rfl | (simp [errW_none, errW_some] <;> rfl) | (simp [*, errW_none, errW_some] <;> rfl), by (with_reducible repeat (first | apply Kd.R_alloc | apply Kd.R_drewN | apply Kd.R_drew)); exact HO1.out, by repeat (first | (with_reducible first | exact HB.out | apply below_alloc | apply pw_below_drewN | apply below_drew1) | exact HB.out), by repeat (first | (with_reducible first | exact HK.out | apply Kept.alloc | apply Kept.drewN | apply Kept.drew) | exact HK.out)⟩
    · rw [if_neg c6] at H
      have c6b0 : ((l1.length : Int) == a2) = false := beq_eq_false_iff_ne.mpr c6
      have c6b1 : ((l1.length : Int) != a2) = true := bne_iff_ne.mpr c6
      (first | rw [c6b0] | (simp only [i64_w, i32_w]; rw [c6b0]) | skip)
      by_cases c7 : (l1.length : Int) > a2
      · rw [if_pos c7] at H
        have c7b0 : decide (a2 < (l1.length : Int)) = true := decide_eq_true c7
        clear c7
        have H' := Aside0.mk H
        clear H
        go_wp2
        go_meet
        case rel => exact ⟨_, ((l1.length : Int)), (by first | rfl | (simp; done) | (simp [*]; done)), H', ⟨by first | omega | exact Nat.le_refl _⟩, ⟨by (with_reducible repeat (first | apply Kd.R_alloc | apply Kd.R_drewN | apply Kd.R_drew)); exact HO1.out⟩, ⟨by repeat (first | (with_reducible first | exact HK.out | apply Kept.alloc | apply Kept.drewN | apply Kept.drew) | exact HK.out)⟩, ⟨by repeat (first | (with_reducible first | exact HB.out | apply below_alloc | apply pw_below_drewN | apply below_drew1) | exact HB.out)⟩⟩
      · rw [if_neg c7] at H
        have c7b0 : decide (a2 < (l1.length : Int)) = false := decide_eq_false c7
        clear c7
        have H' := Aside0.mk H
        clear H
        go_wp2
        go_meet
        case rel => exact ⟨_, (a2), (by first | rfl | (simp; done) | (simp [*]; done)), H', ⟨by first | omega | exact Nat.le_refl _⟩, ⟨by (with_reducible repeat (first | apply Kd.R_alloc | apply Kd.R_drewN | apply Kd.R_drew)); exact HO1.out⟩, ⟨by repeat (first | (with_reducible first | exact HK.out | apply Kept.alloc | apply Kept.drewN | apply Kept.drew) | exact HK.out)⟩, ⟨by repeat (first | (with_reducible first | exact HB.out | apply below_alloc | apply pw_below_drewN | apply below_drew1) | exact HB.out)⟩⟩
  case rest =>
    clear HC4
    try clear p2
    try clear c3
    try clear c6
    try clear c6b0
    try clear c6b1
    try clear c7
    try clear c7b0
    obtain ⟨kq, x2_3, rfl, HA, HJ3, HO_1, HK, HB⟩ := hcut
    cases kq with
    | zero => exact absurd HA.out (by simp [text_VAlign_Apply.j0])
    | succ kj3 =>
      have H := HA.out
      clear HA
      simp only [text_VAlign_Apply.j0] at H
      by_cases c8 : x2_3 < 1
      · rw [if_pos c8] at H
        have c8b0 : decide (x2_3 < 1) = true := decide_eq_true c8
        clear c8
        obtain rfl := Option.some.inj H
        go_wp2
        go_ret
        exact ⟨_, by first | rfl | (simp [errW_none, errW_some] <;> rfl) | (simp [*, errW_none, errW_some] <;> rfl), by (with_reducible repeat (first | apply Kd.R_alloc | apply Kd.R_drewN | apply Kd.R_drew)); exact HO_1.out, by repeat (first | (with_reducible first | exact HB.out | apply below_alloc | apply pw_below_drewN | apply below_drew1) | exact HB.out), by repeat (first | (with_reducible first | exact HK.out | apply Kept.alloc | apply Kept.drewN | apply Kept.drew) | exact HK.out)⟩
      · rw [if_neg c8] at H
        have c8b0 : decide (x2_3 < 1) = false := decide_eq_false c8
        clear c8
        have HC9 := Aside0.mk H
        clear H
        go_upto_block 0 with (fail)
        go_cut [7] (fun v7 wc => ∃ (kq : Nat) (x7_8 : Int), v7 = .int .i64 x7_8 ∧ Aside0 (text_VAlign_Apply.j1 kq l1 x2_3 x7_8 = some r) ∧ Aside0 (kq ≤ kj3) ∧ Aside0 (Kd.R Kd.string 9 wc w0.heap.size (fun k_ => (P1_ k_ ∨ w.heap.size ≤ k_)) (.slice Ao5 l1.length co5) l1) ∧ Aside0 (Kept w wc (fun k_ => P1_ k_)) ∧ Aside0 (Below w0.heap.size w0 wc))
        case first =>
          have H := HC9.out
          clear HC9
          by_cases c10 : a0 = 2
          · rw [if_pos c10] at H
            have c10b0 : (a0 == 2) = true := beq_iff_eq.mpr c10
            have c10b1 : (a0 != 2) = false := bne_eq_false_iff_eq.mpr c10
            clear c10
            (first | rw [c10b0] | (simp only [i64_w, i32_w]; rw [c10b0]) | skip)
            have H' := Aside0.mk H
            clear H
            go_wp2
            go_meet
            case rel => exact ⟨_, (wrap64 (Int.tdiv (wrap64 (x2_3 - (l1.length : Int))) 2)), (by first | rfl | (simp; done) | (simp [*]; done)), H', ⟨by have := HJ3.out; first | omega | exact Nat.le_refl _⟩, ⟨by (with_reducible repeat (first | apply Kd.R_alloc | apply Kd.R_drewN | apply Kd.R_drew)); exact HO_1.out⟩, ⟨by repeat (first | (with_reducible first | exact HK.out | apply Kept.alloc | apply Kept.drewN | apply Kept.drew) | exact HK.out)⟩, ⟨by repeat (first | (with_reducible first | exact HB.out | apply below_alloc | apply pw_below_drewN | apply below_drew1) | exact HB.out)⟩⟩
          · rw [if_neg c10] at H
            have c10b0 : (a0 == 2) = false := beq_eq_false_iff_ne.mpr c10
            have c10b1 : (a0 != 2) = true := bne_iff_ne.mpr c10
            (first | rw [c10b0] | (simp only [i64_w, i32_w]; rw [c10b0]) | skip)
            by_cases c11 : a0 = 3
            · rw [if_pos c11] at H
              have c11b0 : (a0 == 3) = true := beq_iff_eq.mpr c11
              have c11b1 : (a0 != 3) = false := bne_eq_false_iff_eq.mpr c11
              clear c11
              have H' := Aside0.mk H
              clear H
              go_wp2
              go_meet
              case rel => exact ⟨_, (wrap64 (x2_3 - (l1.length : Int))), (by first | rfl | (simp; done) | (simp [*]; done)), H', ⟨by have := HJ3.out; first | omega | exact Nat.le_refl _⟩, ⟨by (with_reducible repeat (first | apply Kd.R_alloc | apply Kd.R_drewN | apply Kd.R_drew)); exact HO_1.out⟩, ⟨by repeat (first | (with_reducible first | exact HK.out | apply Kept.alloc | apply Kept.drewN | apply Kept.drew) | exact HK.out)⟩, ⟨by repeat (first | (with_reducible first | exact HB.out | apply below_alloc | apply pw_below_drewN | apply below_drew1) | exact HB.out)⟩⟩
            · rw [if_neg c11] at H
              have c11b0 : (a0 == 3) = false := beq_eq_false_iff_ne.mpr c11
              have c11b1 : (a0 != 3) = true := bne_iff_ne.mpr c11
              have H' := Aside0.mk H
              clear H
              go_wp2
              go_meet
              case rel => exact ⟨_, (0), (by first | rfl | (simp; done) | (simp [*]; done)), H', ⟨by have := HJ3.out; first | omega | exact Nat.le_refl _⟩, ⟨by (with_reducible repeat (first | apply Kd.R_alloc | apply Kd.R_drewN | apply Kd.R_drew)); exact HO_1.out⟩, ⟨by repeat (first | (with_reducible first | exact HK.out | apply Kept.alloc | apply Kept.drewN | apply Kept.drew) | exact HK.out)⟩, ⟨by repeat (first | (with_reducible first | exact HB.out | apply below_alloc | apply pw_below_drewN | apply below_drew1) | exact HB.out)⟩⟩
        case rest =>
          clear HC9
          try clear c1
          try clear p2
          try clear c3
          try clear c6
          try clear c6b0
          try clear c6b1
          try clear p6
          try clear c7
          try clear c7b0
          try clear c8
          try clear c8b0
          try clear c10
          try clear c10b0
          try clear c10b1
          try clear c11
          try clear c11b0
          try clear c11b1
          try clear p2
          obtain ⟨kq, x7_8, rfl, HA, HJ8, HO_1, HK, HB⟩ := hcut
          cases kq with
          | zero => exact absurd HA.out (by simp [text_VAlign_Apply.j1])
          | succ kj8 =>
            have H := HA.out
            clear HA
            simp only [text_VAlign_Apply.j1] at H
            replace H := Option.bind_eq_some_iff.mp H
            obtain ⟨t122, A120, H⟩ := H
            replace H : ((text_zzSplit.f kj8 t122 (⟨#[10]⟩ : ByteArray)).bind fun t123 => (text_VAlign_Apply.l0 kj8 x7_8 t123 l1 (l1.length : Int) 0)) = some r := H
            have A12 := Aside0.mk A120
            clear A120
            replace H := Option.bind_eq_some_iff.mp H
            obtain ⟨t123, A130, H⟩ := H
            replace H : (text_VAlign_Apply.l0 kj8 x7_8 t123 l1 (l1.length : Int) 0) = some r := H
            have A13 := Aside0.mk A130
            clear A130
            have H' := Aside0.mk H
            clear H
            go_wp2_with (first | ((with_reducible refine gate_callee (f := 58) rfl ?_); refine goesL_ (some 41) rfl rfl Try.func58 (by kernel_rfl) rfl #[.string (⟨#[10]⟩ : ByteArray), .int .i64 (wrap64 (x2_3 - 1))] rfl (by (try simp only [List.map_toArray, List.map_cons, List.map_nil]); first | done | rfl | (simp only [List.length_drop, List.length_take]; rfl)) ?_; (with_reducible refine (strings_Repeat.calls (⟨#[10]⟩ : ByteArray) (wrap64 (x2_3 - 1)) t122 _ A12.out).mono ?_); rintro e w14 ⟨rfl, hb⟩; refine ⟨_, rfl, ?_⟩; have n0_ := Aside0.mk (Kd.R_below (by (with_reducible repeat (first | apply Kd.R_alloc | apply Kd.R_drewN | apply Kd.R_drew)); exact HO_1.out) hb); have n1_ := Aside0.mk (Kept.below (S := (fun k_ => P1_ k_)) (by repeat (first | (with_reducible first | exact HK.out | apply Kept.alloc | apply Kept.drewN | apply Kept.drew) | exact HK.out)) hb); have n2_ := Aside0.mk (below_step (by repeat (first | (with_reducible first | exact HB.out | apply below_alloc | apply pw_below_drewN | apply below_drew1) | exact HB.out)) hb); clear HO_1; clear HK; clear HB; have HO_1 := n0_; have HK := n1_; have HB := n2_; clear n0_ n1_ n2_; (try clear hb); (try clear hb2); (try clear hk); (try clear hi)) | ((with_reducible refine gate_callee (f := 57) rfl ?_); refine goesL_ (some 42) rfl rfl Try.func57 (by kernel_rfl) rfl #[.string t122, .string (⟨#[10]⟩ : ByteArray)] rfl (by (try simp only [List.map_toArray, List.map_cons, List.map_nil]); first | done | rfl | (simp only [List.length_drop, List.length_take]; rfl)) ?_; (with_reducible refine (text_zzSplit.calls kj8 t122 (⟨#[10]⟩ : ByteArray) t123 _ A13.out).mono ?_); rintro e w15 ⟨v124, rfl, ho0, hb⟩; refine ⟨_, rfl, ?_⟩; have n0_ := Aside0.mk (Kd.R_elder' (by (with_reducible repeat (first | apply Kd.R_alloc | apply Kd.R_drewN | apply Kd.R_drew)); exact HO_1.out) (Kd.R_base ho0) hb); have n1_ := Aside0.mk (Kd.R_lower (Kd.R_new' (Kd.R_newM (M := fun k_ => (P1_ k_ ∨ w.heap.size ≤ k_)) ho0 (by first | exact HK.out.1 | exact (show Kept w _ (fun k_ => P1_ k_) from by repeat (first | (with_reducible first | exact HK.out | apply Kept.alloc | apply Kept.drewN | apply Kept.drew) | exact HK.out)).1) (fun k_ h_ => .inr h_)) (Kd.R_lt (by (with_reducible repeat (first | apply Kd.R_alloc | apply Kd.R_drewN | apply Kd.R_drew)); exact HO_1.out))) (below_size (by repeat (first | (with_reducible first | exact HB.out | apply below_alloc | apply pw_below_drewN | apply below_drew1) | exact HB.out)))); have n2_ := Aside0.mk (Kept.below (S := (fun k_ => P1_ k_)) (by repeat (first | (with_reducible first | exact HK.out | apply Kept.alloc | apply Kept.drewN | apply Kept.drew) | exact HK.out)) hb); have n3_ := Aside0.mk (below_step (by repeat (first | (with_reducible first | exact HB.out | apply below_alloc | apply pw_below_drewN | apply below_drew1) | exact HB.out)) hb); clear HO_1; clear HK; clear HB; have HO_1 := n0_; have HO125 := n1_; have HK := n2_; have HB := n3_; clear n0_ n1_ n2_ n3_; (try clear hb); (try clear hb2); (try clear hk); (try clear hi); (try clear ho0)))
            go_loopg [45] kj8 (fun kq v45 w' => ∃ (x8_3 : List ByteArray) (x45_3 : Int), v45 = .int .i64 x45_3 ∧ Aside0 (text_VAlign_Apply.l0 kq x7_8 x8_3 l1 (l1.length : Int) x45_3 = some r) ∧ Aside0 (kq ≤ kj8) ∧ Aside0 (Kd.R Kd.string 9 w' w0.heap.size (fun k_ => (P1_ k_ ∨ w.heap.size ≤ k_) ∧ some k_ ≠ ((.slice Ao5 l1.length co5) : Value).ownBlock) v124 x8_3) ∧ Aside0 (Kd.R Kd.string 9 w' w0.heap.size (fun k_ => (P1_ k_ ∨ w.heap.size ≤ k_) ∧ some k_ ≠ (v124 : Value).ownBlock) (.slice Ao5 l1.length co5) l1) ∧ Aside0 (Kept w w' (fun k_ => P1_ k_)) ∧ Aside0 (Below w0.heap.size w0 w'))
            case atStart => exact ⟨(t123), (0), (by first | rfl | (simp; done) | (simp [*]; done)), H', ⟨Nat.le_refl _⟩, ⟨by (with_reducible repeat (first | apply Kd.R_alloc | apply Kd.R_drewN | apply Kd.R_drew)); exact Kd.R_mono HO125.out (fun _ hk => ⟨hk.1.1, hk.2⟩)⟩, ⟨by (with_reducible repeat (first | apply Kd.R_alloc | apply Kd.R_drewN | apply Kd.R_drew)); exact HO_1.out⟩, ⟨by repeat (first | (with_reducible first | exact HK.out | apply Kept.alloc | apply Kept.drewN | apply Kept.drew) | exact HK.out)⟩, ⟨by repeat (first | (with_reducible first | exact HB.out | apply below_alloc | apply pw_below_drewN | apply below_drew1) | exact HB.out)⟩⟩
            case round =>
              clear H'
              try clear c1
              try clear p2
              try clear c3
              try clear c5
              try clear c6
              try clear c6b0
              try clear c6b1
              try clear p6
              try clear c7
              try clear c7b0
              try clear c8
              try clear c8b0
              try clear c10
              try clear c10b0
              try clear c10b1
              try clear c11
              try clear c11b0
              try clear c11b1
              try clear p2
              try clear p6
              obtain ⟨x8_3, x45_3, rfl, HA, HK3, HO_8, HO_43, HK, HB⟩ := hrel
              cases gk with
              | zero => exact absurd HA.out (by simp [text_VAlign_Apply.l0])
              | succ k3 =>
                have H := HA.out
                clear HA
                simp only [text_VAlign_Apply.l0] at H
                by_cases c16 : x45_3 < (l1.length : Int)
                · rw [if_pos c16] at H
                  have c16b0 : decide (x45_3 < (l1.length : Int)) = true := decide_eq_true c16
                  clear c16
                  by_cases c17 : 0 ≤ x45_3
                  · rw [if_pos c17] at H
                    have c17b0 : decide (0 ≤ x45_3) = true := decide_eq_true c17
                    clear c17
                    by_cases c18 : x45_3 < (l1.length : Int)
                    · rw [if_pos c18] at H
                      have c18b0 : decide (x45_3 < (l1.length : Int)) = true := decide_eq_true c18
                      clear c18
                      obtain ⟨ji19, hji19⟩ : ∃ j_ : Int, (wrap64 (x45_3 + x7_8)) = j_ := ⟨_, rfl⟩
                      replace H : (if 0 ≤ (ji19) then (if (ji19) < (x8_3.length : Int) then (text_VAlign_Apply.l0 k3 x7_8 (x8_3.set ((ji19) : Int).toNat (rdOf ByteArray.empty l1 x45_3)) l1 (l1.length : Int) (wrap64 (x45_3 + 1))) else (none)) else (none)) = some r := by first | (rw [hji19] at H; exact H) | (simp only [hji19] at H ⊢; exact H)
                      have hji19w : (IntKind.i64.wrap (x45_3 + x7_8)) = ji19 := (i64_w _).trans hji19
                      by_cases c20 : 0 ≤ (ji19)
                      · rw [if_pos c20] at H
                        have c20b0 : decide (0 ≤ (ji19)) = true := decide_eq_true c20
                        clear c20
                        by_cases c21 : (ji19) < (x8_3.length : Int)
                        · rw [if_pos c21] at H
                          have c21b0 : decide ((ji19) < (x8_3.length : Int)) = true := decide_eq_true c21
                          clear c21
                          obtain ⟨y127, hy127⟩ : ∃ y_ : List ByteArray, y_ = (x8_3.set ((ji19) : Int).toNat (rdOf ByteArray.empty l1 x45_3)) := ⟨_, rfl⟩
                          replace H : (text_VAlign_Apply.l0 k3 x7_8 y127 l1 (l1.length : Int) (wrap64 (x45_3 + 1))) = some r := by first | (rw [hy127]; with_reducible exact H) | (have H2_ := (Option.bind_some _ _).symm.trans H; rw [hy127]; with_reducible exact H2_) | (have H2_ := (Option.bind_some _ _).symm.trans H; with_reducible exact H2_) | with_reducible exact H | (rw [hy127]; exact H) | exact H
                          have Ny127 := Aside0.mk hy127
                          clear hy127
                          have H' := Aside0.mk H
                          clear H
                          have p126 : 0 ≤ (x45_3 : Int) := of_decide_eq_true (by first | (with_reducible assumption) | assumption)
                          have q126 : x45_3 < (l1.length : Int) := of_decide_eq_true (by first | (with_reducible assumption) | assumption)
                          obtain ⟨ad126, e126, hx126_0⟩ := Kd.at_string (Kd.R_reads' HO_43.out).2.2 x45_3 p126 q126
                          cases e126
                          replace p126 := eq_true p126
                          replace q126 := eq_true q126
                          have p22 : 0 ≤ ((ji19) : Int) := of_decide_eq_true (by first | (with_reducible assumption) | assumption)
                          have q22 : ((ji19) : Int) < ((x8_3.length : Int) : Int) := of_decide_eq_true (by first | (with_reducible assumption) | assumption)
                          obtain ⟨go22, co22, eo22, gb22, gl22, cl22, HG22⟩ := Kd.R_form HO_8.out (by omega)
                          (first | cases eo22 | (injection eo22 with ea_ en_ ec_; (first | subst ea_ | (injection ea_ with ea_; subst ea_)); subst ec_; clear en_))
                          have GB22 := Aside0.mk gb22
                          have GG22 := Aside0.mk HG22
                          clear gb22 gl22 HG22
                          have HMgo22 := Aside0.mk (show (P1_ go22 ∨ w.heap.size ≤ go22) from (HO_8.out.1 _ rfl).1)
                          obtain ⟨hx22_0, hf22_0⟩ := Kd.R_celln (⟨#[]⟩ : ByteArray) HO_8.out ((ji19) : Int) p22 q22
                          replace p22 := eq_true p22
                          replace q22 := eq_true q22
                          have HP23 := Kd.R_putg HO_8.out ((ji19) : Int) (rdOf ByteArray.empty l1 x45_3)
                          go_wp2_with (first | ((with_reducible refine gate_store (t := 9) (p := 55) rfl ?_); refine store_event (t := 9) (p := 55) (v := ?vo_w24) (w1 := (wr.setCell ⟨go22, ((ji19) : Int).toNat, none⟩ (.string (rdOf ByteArray.empty l1 x45_3)))) ?hg ?ho ?hn ?hr ?_; (case ho => rfl); (case hg => rfl); (case hn => rfl); (case hr => first | (go_simp; done) | (go_simp; rfl)); intro w24 hw; have hg : wr.grownBy w24 (some go22) := (by rw [hw]; exact HP23.2); have hp_ : Kd.R Kd.string 9 w24 w0.heap.size (fun k_ => (P1_ k_ ∨ w.heap.size ≤ k_) ∧ some k_ ≠ (.slice (some ad126) l1.length co5 : Value).ownBlock) (.slice (some ⟨go22, 0, none⟩) x8_3.length co22) y127 := (by rw [hw, Ny127.out]; exact HP23.1); clear HP23; have n0_ := Aside0.mk (hp_); have n1_ := Aside0.mk (Kd.R_after (v := (.slice (some ⟨go22, 0, none⟩) x8_3.length co22)) (v1 := (.slice (some ⟨go22, 0, none⟩) x8_3.length co22)) (ok := (fun k_ => (P1_ k_ ∨ w.heap.size ≤ k_))) (by (with_reducible repeat (first | apply Kd.R_alloc | apply Kd.R_drewN | apply Kd.R_drew)); exact HO_43.out) hg (.inl rfl)); have n2_ := Aside0.mk ((by rw [hw]; exact below_set (HB.out) GB22.out : Below w0.heap.size w0 w24)); have n3_ := Aside0.mk (Kept.of_grown (S := (fun k_ => P1_ k_)) hg (by repeat (first | (with_reducible first | exact HK.out | apply Kept.alloc | apply Kept.drewN | apply Kept.drew) | exact HK.out)) (fun k_ e_ => (HO_8.out.1 k_ e_).1)); clear HO_8; clear HO_43; clear HB; clear HK; have HO_8 := n0_; have HO_43 := n1_; have HB := n2_; have HK := n3_; clear n0_ n1_ n2_ n3_; clear hg hw hp_))
                          go_roundg k3
                          case measure => have := HJ3.out; have := HJ8.out; have := HK3.out; omega
                          case rel => exact ⟨(y127), (wrap64 (x45_3 + 1)), (by first | rfl | (simp; done) | (simp [*]; done)), H', ⟨by have := HJ3.out; have := HJ8.out; have := HK3.out; omega⟩, ⟨by (with_reducible repeat (first | apply Kd.R_alloc | apply Kd.R_drewN | apply Kd.R_drew)); exact HO_8.out⟩, ⟨by (with_reducible repeat (first | apply Kd.R_alloc | apply Kd.R_drewN | apply Kd.R_drew)); exact HO_43.out⟩, ⟨by repeat (first | (with_reducible first | exact HK.out | apply Kept.alloc | apply Kept.drewN | apply Kept.drew) | exact HK.out)⟩, ⟨by repeat (first | (with_reducible first | exact HB.out | apply below_alloc | apply pw_below_drewN | apply below_drew1) | exact HB.out)⟩⟩
                        · rw [if_neg c21] at H
                          exact absurd H (by simp)
                      · rw [if_neg c20] at H
                        exact absurd H (by simp)
                    · rw [if_neg c18] at H
                      exact absurd H (by simp)
                  · rw [if_neg c17] at H
                    exact absurd H (by simp)
                · rw [if_neg c16] at H
                  have c16b0 : decide (x45_3 < (l1.length : Int)) = false := decide_eq_false c16
                  clear c16
                  obtain rfl := Option.some.inj H
                  go_wp2
                  go_ret
                  exact ⟨_, by first | rfl | (simp [errW_none, errW_some] <;> rfl) | (simp [*, errW_none, errW_some] <;> rfl), by (with_reducible repeat (first | apply Kd.R_alloc | apply Kd.R_drewN | apply Kd.R_drew)); exact Kd.R_mono HO_8.out (fun _ hk => hk.1), by repeat (first | (with_reducible first | exact HB.out | apply below_alloc | apply pw_below_drewN | apply below_drew1) | exact HB.out), by repeat (first | (with_reducible first | exact HK.out | apply Kept.alloc | apply Kept.drewN | apply Kept.drew) | exact HK.out)⟩

end Go.Proofs.Ytimefacdnabkdab.PFnTextVAlignText
