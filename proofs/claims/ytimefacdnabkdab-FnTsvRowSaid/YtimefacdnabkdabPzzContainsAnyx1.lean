-- Written by hprint.py, a program of this session
import Derived.Test.YtimefacdnabkdabPzzContainsAnyx0
namespace Go.Proofs.Ytimefacdnabkdab.PzzContainsAny
open Go.RowKit Go.Proofs.Ytimefacdnabkdab.Hand Go.Proofs.YtimefacdnabkdabW.PrintWords Go.Proofs.YtimefacdnabkdabW.PrintLast Go.Proofs.YtimefacdnabkdabW.PrintMore
attribute [local go_sem] max2_int min2_int max_two min_two max_three min_three max_four min_four   -- for this text's walks alone
set_option linter.unusedVariables false
set_option linter.unusedSimpArgs false

/-! ### table_zzIndexAny: function 79 -/
mutual
def table_zzIndexAny.l0 : Nat → ByteArray → Int → ByteArray → Option (Int)
  | 0, _, _, _ => none
  | k + 1, x1, x102000, x102001 => if It.itK x102000 < (x102001.size : Int) then (table_zzIndexAny.l1 k x1 (It.itK x102000) (It.itR x102001 x102000) (It.itP x102001 x102000) x102001 0 x1) else (some (-1))
def table_zzIndexAny.l1 : Nat → ByteArray → Int → Int → Int → ByteArray → Int → ByteArray → Option (Int)
  | 0, _, _, _, _, _, _, _ => none
  | k + 1, x1, x5, x6, x102000, x102001, x103000, x103001 => if It.itK x103000 < (x103001.size : Int) then (if x6 = (It.itR x103001 x103000) then (some x5) else (table_zzIndexAny.l1 k x1 x5 x6 x102000 x102001 (It.itP x103001 x103000) x103001)) else (table_zzIndexAny.l0 k x1 x102000 x102001)
end
def table_zzIndexAny.f (k : Nat) (a0 : ByteArray) (a1 : ByteArray) : Option (Int) := table_zzIndexAny.l0 k a1 0 a0
theorem table_zzIndexAny.mono_l : ∀ k, (∀ y0 y1 y2, LeO (table_zzIndexAny.l0 k y0 y1 y2) (table_zzIndexAny.l0 (k + 1) y0 y1 y2)) ∧ (∀ y0 y1 y2 y3 y4 y5 y6, LeO (table_zzIndexAny.l1 k y0 y1 y2 y3 y4 y5 y6) (table_zzIndexAny.l1 (k + 1) y0 y1 y2 y3 y4 y5 y6))
  | 0 => ⟨fun _ _ _ r h => by simp [table_zzIndexAny.l0] at h, fun _ _ _ _ _ _ _ r h => by simp [table_zzIndexAny.l1] at h⟩
  | k + 1 => by
    obtain ⟨ih0, ih1⟩ := table_zzIndexAny.mono_l k
    refine ⟨?_, ?_⟩
    · intro y0 y1 y2
      unfold table_zzIndexAny.l0
      repeat' first
      | (with_reducible exact ih0 _ _ _)
      | (with_reducible exact ih1 _ _ _ _ _ _ _)
      | (with_reducible exact LeO.refl _)
      | (with_reducible exact LeO.none _)
      | (with_reducible refine LeO.ite ?_ ?_)
      | (with_reducible refine LeO.bind ?_ (fun _ => ?_))
      | exact ih0 _ _ _
      | exact ih1 _ _ _ _ _ _ _
      | exact LeO.none _
      | refine LeO.ite ?_ ?_
      | refine LeO.bind ?_ (fun _ => ?_)
    · intro y0 y1 y2 y3 y4 y5 y6
      unfold table_zzIndexAny.l1
      repeat' first
      | (with_reducible exact ih0 _ _ _)
      | (with_reducible exact ih1 _ _ _ _ _ _ _)
      | (with_reducible exact LeO.refl _)
      | (with_reducible exact LeO.none _)
      | (with_reducible refine LeO.ite ?_ ?_)
      | (with_reducible refine LeO.bind ?_ (fun _ => ?_))
      | exact ih0 _ _ _
      | exact ih1 _ _ _ _ _ _ _
      | exact LeO.none _
      | refine LeO.ite ?_ ?_
      | refine LeO.bind ?_ (fun _ => ?_)
theorem table_zzIndexAny.mono : ∀ a0 a1 k, LeO (table_zzIndexAny.f k a0 a1) (table_zzIndexAny.f (k + 1) a0 a1) := by
  intro a0 a1 k
  obtain ⟨ih0, ih1⟩ := table_zzIndexAny.mono_l k
  unfold table_zzIndexAny.f
  repeat' first
      | (with_reducible exact ih0 _ _ _)
      | (with_reducible exact ih1 _ _ _ _ _ _ _)
      | (with_reducible exact LeO.refl _)
      | (with_reducible exact LeO.none _)
      | (with_reducible refine LeO.ite ?_ ?_)
      | (with_reducible refine LeO.bind ?_ (fun _ => ?_))
      | exact ih0 _ _ _
      | exact ih1 _ _ _ _ _ _ _
      | exact LeO.none _
      | refine LeO.ite ?_ ?_
      | refine LeO.bind ?_ (fun _ => ?_)
set_option maxHeartbeats 8000000 in
set_option maxRecDepth 100000 in
theorem table_zzIndexAny.calls (k : Nat) (a0 : ByteArray) (a1 : ByteArray) (r : Int) (w : World) (h : table_zzIndexAny.f k a0 a1 = some r) :
    Calls Try.prog 79 #[.string a0, .string a1] w fun e w' => e = .returned (.int .i64 r) ∧ Below w.heap.size w w' := by
  have HB := Aside0.mk (Below.refl w.heap.size w)
  have H : (table_zzIndexAny.l0 k a1 0 a0) = some r := h
  clear h
  have H' := Aside0.mk H
  clear H
  go_enter Try.func79, Try.ntmps79
  go_wp2_with (first | ((with_reducible refine gate_dst (N := 10) rfl ?_); refine It.range_event ?hg (N := 10) ?hd (s := a0) rfl Try.underlying9 ?hr ?_; (case hd => rfl); (case hg => rfl); (case hr => first | rfl | (go_simp; done) | (go_simp; rfl)); intro gb101 hg w3 hbox hb; have n0_ := Aside0.mk (below_step (by repeat (first | (with_reducible first | exact HB.out | apply below_alloc | apply pw_below_drewN | apply below_drew1) | exact HB.out)) hb); have n1_ := Aside0.mk (hbox); have n2_ := Aside0.mk ((by rw [hg]; exact (below_size (by repeat (first | (with_reducible first | exact HB.out | apply below_alloc | apply pw_below_drewN | apply below_drew1) | exact HB.out))) : w.heap.size ≤ gb101)); have n3_ := Aside0.mk ((by rw [hg]; exact (below_size (by repeat (first | (with_reducible first | exact HB.out | apply below_alloc | apply pw_below_drewN | apply below_drew1) | exact HB.out))) : w.heap.size ≤ gb101)); clear HB; have HB := n0_; have BK101 := n1_; have GW101 := n2_; have GE101 := n3_; clear n0_ n1_ n2_ n3_; clear hb hbox hg))
  (try simp only [Act.put, List.setIfInBounds_toArray, List.set_cons_zero, List.set_cons_succ])
  go_loopg [] k (fun kq w' => ∃ (x102000_1 : Int), Aside0 (table_zzIndexAny.l0 kq a1 x102000_1 a0 = some r) ∧ Aside0 (kq ≤ k) ∧ Aside0 (w'.heap[gb101]? = some (.stringIter a0 (x102000_1 : Int).toNat)) ∧ Aside0 (Below w.heap.size w w'))
  case atStart => exact ⟨(0), H', ⟨Nat.le_refl _⟩, ⟨by (with_reducible repeat (first | refine blk_drewN ?_ _ | refine blk_drew ?_ | refine blk_alloc ?_ _)); exact BK101.out⟩, ⟨by repeat (first | (with_reducible first | exact HB.out | apply below_alloc | apply pw_below_drewN | apply below_drew1 | refine below_set ?_ GE101.out) | exact HB.out)⟩⟩
  case round =>
    clear H'
    try clear p2
    obtain ⟨x102000_1, HA, HK1, BK101, HB⟩ := hrel
    cases gk with
    | zero => exact absurd HA.out (by simp [table_zzIndexAny.l0])
    | succ k1 =>
      have H := HA.out
      clear HA
      simp only [table_zzIndexAny.l0] at H
      by_cases c4 : It.itK x102000_1 < (a0.size : Int)
      · rw [if_pos c4] at H
        have c4b0 : decide (It.itK x102000_1 < (a0.size : Int)) = true := decide_eq_true c4
        clear c4
        have H' := Aside0.mk H
        clear H
        go_wp2_with (first | ((with_reducible refine gate_dst (N := 11) rfl ?_); refine It.next_yes ?hg (N := 11) ?hd (g := gb101) (s := a0) (pos := x102000_1) rfl ?hr (by (with_reducible repeat (first | refine blk_drewN ?_ _ | refine blk_drew ?_ | refine blk_alloc ?_ _)); exact BK101.out) (of_decide_eq_true (by first | (with_reducible assumption) | assumption)) ?_; (case hd => rfl); (case hg => rfl); (case hr => first | rfl | (go_simp; done) | (go_simp; rfl)); intro w5 hg_ hbox; have n0_ := Aside0.mk (hbox); have n1_ := Aside0.mk (It.below_iter (by repeat (first | (with_reducible first | exact HB.out | apply below_alloc | apply pw_below_drewN | apply below_drew1 | refine below_set ?_ GE101.out) | exact HB.out)) (below_size (by repeat (first | (with_reducible first | exact HB.out | apply below_alloc | apply pw_below_drewN | apply below_drew1 | refine below_set ?_ GE101.out) | exact HB.out))) hg_ GE101.out); clear BK101; clear HB; have BK101 := n0_; have HB := n1_; clear n0_ n1_; clear hg_ hbox) | ((with_reducible refine gate_dst (N := 16) rfl ?_); refine It.range_event ?hg (N := 16) ?hd (s := a1) rfl Try.underlying9 ?hr ?_; (case hd => rfl); (case hg => rfl); (case hr => first | rfl | (go_simp; done) | (go_simp; rfl)); intro gb102 hg w6 hbox hb; have n0_ := Aside0.mk (blk_below (g := gb101) (o := .stringIter a0 (It.itP a0 x102000_1 : Int).toNat) (by (with_reducible repeat (first | refine blk_drewN ?_ _ | refine blk_drew ?_ | refine blk_alloc ?_ _)); exact BK101.out) hb); have n1_ := Aside0.mk (below_step (by repeat (first | (with_reducible first | exact HB.out | apply below_alloc | apply pw_below_drewN | apply below_drew1 | refine below_set ?_ GE101.out) | exact HB.out)) hb); have n2_ := Aside0.mk (hbox); have n3_ := Aside0.mk ((by rw [hg]; exact (below_size (by repeat (first | (with_reducible first | exact HB.out | apply below_alloc | apply pw_below_drewN | apply below_drew1 | refine below_set ?_ GE101.out) | exact HB.out))) : w.heap.size ≤ gb102)); have n4_ := Aside0.mk ((by rw [hg]; exact (below_size (by repeat (first | (with_reducible first | exact HB.out | apply below_alloc | apply pw_below_drewN | apply below_drew1 | refine below_set ?_ GE101.out) | exact HB.out))) : w.heap.size ≤ gb102)); have n5_ := Aside0.mk ((by rw [hg]; exact Nat.ne_of_lt (blk_lt (g := gb101) (o := .stringIter a0 (It.itP a0 x102000_1 : Int).toNat) (by (with_reducible repeat (first | refine blk_drewN ?_ _ | refine blk_drew ?_ | refine blk_alloc ?_ _)); exact BK101.out)) : gb101 ≠ gb102)); have n6_ := Aside0.mk ((by rw [hg]; exact Nat.ne_of_gt (blk_lt (g := gb101) (o := .stringIter a0 (It.itP a0 x102000_1 : Int).toNat) (by (with_reducible repeat (first | refine blk_drewN ?_ _ | refine blk_drew ?_ | refine blk_alloc ?_ _)); exact BK101.out)) : gb102 ≠ gb101)); clear BK101; clear HB; have BK101 := n0_; have HB := n1_; have BK102 := n2_; have GW102 := n3_; have GE102 := n4_; have NB101_102 := n5_; have NB102_101 := n6_; clear n0_ n1_ n2_ n3_ n4_ n5_ n6_; clear hb hbox hg))
        (try simp only [Act.put, List.setIfInBounds_toArray, List.set_cons_zero, List.set_cons_succ])
        go_loopg [] k1 (fun kq w' => ∃ (x103000_2 : Int), Aside0 (table_zzIndexAny.l1 kq a1 (It.itK x102000_1) (It.itR a0 x102000_1) (It.itP a0 x102000_1) a0 x103000_2 a1 = some r) ∧ Aside0 (kq ≤ k1) ∧ Aside0 (w'.heap[gb101]? = some (.stringIter a0 ((It.itP a0 x102000_1) : Int).toNat)) ∧ Aside0 (w'.heap[gb102]? = some (.stringIter a1 (x103000_2 : Int).toNat)) ∧ Aside0 (Below w.heap.size w w'))
        case atStart => exact ⟨(0), H', ⟨Nat.le_refl _⟩, ⟨by (with_reducible repeat (first | refine blk_drewN ?_ _ | refine blk_drew ?_ | refine blk_alloc ?_ _)); exact BK101.out⟩, ⟨by (with_reducible repeat (first | refine blk_drewN ?_ _ | refine blk_drew ?_ | refine blk_alloc ?_ _)); exact BK102.out⟩, ⟨by repeat (first | (with_reducible first | exact HB.out | apply below_alloc | apply pw_below_drewN | apply below_drew1 | refine below_set ?_ GE101.out | refine below_set ?_ GE102.out) | exact HB.out)⟩⟩
        case round =>
          clear H'
          try clear p2
          try clear c4
          try clear c4b0
          try clear p2
          obtain ⟨x103000_2, HA, HK2, BK101, BK102, HB⟩ := hrel
          cases gk with
          | zero => exact absurd HA.out (by simp [table_zzIndexAny.l1])
          | succ k2 =>
            have H := HA.out
            clear HA
            simp only [table_zzIndexAny.l1] at H
            by_cases c7 : It.itK x103000_2 < (a1.size : Int)
            · rw [if_pos c7] at H
              have c7b0 : decide (It.itK x103000_2 < (a1.size : Int)) = true := decide_eq_true c7
              clear c7
              by_cases c8 : (It.itR a0 x102000_1) = (It.itR a1 x103000_2)
              · rw [if_pos c8] at H
                have c8b0 : ((It.itR a0 x102000_1) == (It.itR a1 x103000_2)) = true := beq_iff_eq.mpr c8
                have c8b1 : ((It.itR a0 x102000_1) != (It.itR a1 x103000_2)) = false := bne_eq_false_iff_eq.mpr c8
                clear c8
                obtain rfl := Option.some.inj H
                go_wp2_with (first | ((with_reducible refine gate_dst (N := 17) rfl ?_); refine It.next_yes ?hg (N := 17) ?hd (g := gb102) (s := a1) (pos := x103000_2) rfl ?hr (by (with_reducible repeat (first | refine blk_drewN ?_ _ | refine blk_drew ?_ | refine blk_alloc ?_ _)); exact BK102.out) (of_decide_eq_true (by first | (with_reducible assumption) | assumption)) ?_; (case hd => rfl); (case hg => rfl); (case hr => first | rfl | (go_simp; done) | (go_simp; rfl)); intro w9 hg_ hbox; have n0_ := Aside0.mk (It.blk_iter (g' := gb101) (o := .stringIter a0 ((It.itP a0 x102000_1) : Int).toNat) (by (with_reducible repeat (first | refine blk_drewN ?_ _ | refine blk_drew ?_ | refine blk_alloc ?_ _)); exact BK101.out) NB101_102.out hg_); have n1_ := Aside0.mk (hbox); have n2_ := Aside0.mk (It.below_iter (by repeat (first | (with_reducible first | exact HB.out | apply below_alloc | apply pw_below_drewN | apply below_drew1 | refine below_set ?_ GE101.out | refine below_set ?_ GE102.out) | exact HB.out)) (below_size (by repeat (first | (with_reducible first | exact HB.out | apply below_alloc | apply pw_below_drewN | apply below_drew1 | refine below_set ?_ GE101.out | refine below_set ?_ GE102.out) | exact HB.out))) hg_ GE102.out); clear BK101; clear BK102; clear HB; have BK101 := n0_; have BK102 := n1_; have HB := n2_; clear n0_ n1_ n2_; clear hg_ hbox))
                go_ret
                exact ⟨by first | rfl | (simp [errW_none, errW_some] <;> rfl) | (simp [*, errW_none, errW_some] <;> rfl), by repeat (first | (with_reducible first | exact HB.out | apply below_alloc | apply pw_below_drewN | apply below_drew1 | refine below_set ?_ GE101.out | refine below_set ?_ GE102.out) | exact HB.out)⟩
              · rw [if_neg c8] at H
                have c8b0 : ((It.itR a0 x102000_1) == (It.itR a1 x103000_2)) = false := beq_eq_false_iff_ne.mpr c8
                have c8b1 : ((It.itR a0 x102000_1) != (It.itR a1 x103000_2)) = true := bne_iff_ne.mpr c8
                have H' := Aside0.mk H
                clear H
                go_wp2_with (first | ((with_reducible refine gate_dst (N := 17) rfl ?_); refine It.next_yes ?hg (N := 17) ?hd (g := gb102) (s := a1) (pos := x103000_2) rfl ?hr (by (with_reducible repeat (first | refine blk_drewN ?_ _ | refine blk_drew ?_ | refine blk_alloc ?_ _)); exact BK102.out) (of_decide_eq_true (by first | (with_reducible assumption) | assumption)) ?_; (case hd => rfl); (case hg => rfl); (case hr => first | rfl | (go_simp; done) | (go_simp; rfl)); intro w10 hg_ hbox; have n0_ := Aside0.mk (It.blk_iter (g' := gb101) (o := .stringIter a0 ((It.itP a0 x102000_1) : Int).toNat) (by (with_reducible repeat (first | refine blk_drewN ?_ _ | refine blk_drew ?_ | refine blk_alloc ?_ _)); exact BK101.out) NB101_102.out hg_); have n1_ := Aside0.mk (hbox); have n2_ := Aside0.mk (It.below_iter (by repeat (first | (with_reducible first | exact HB.out | apply below_alloc | apply pw_below_drewN | apply below_drew1 | refine below_set ?_ GE101.out | refine below_set ?_ GE102.out) | exact HB.out)) (below_size (by repeat (first | (with_reducible first | exact HB.out | apply below_alloc | apply pw_below_drewN | apply below_drew1 | refine below_set ?_ GE101.out | refine below_set ?_ GE102.out) | exact HB.out))) hg_ GE102.out); clear BK101; clear BK102; clear HB; have BK101 := n0_; have BK102 := n1_; have HB := n2_; clear n0_ n1_ n2_; clear hg_ hbox))
                go_roundg k2
                case measure => have := HK1.out; have := HK2.out; omega
                case rel => exact ⟨(It.itP a1 x103000_2), H', ⟨by have := HK1.out; have := HK2.out; omega⟩, ⟨by (with_reducible repeat (first | refine blk_drewN ?_ _ | refine blk_drew ?_ | refine blk_alloc ?_ _)); exact BK101.out⟩, ⟨by (with_reducible repeat (first | refine blk_drewN ?_ _ | refine blk_drew ?_ | refine blk_alloc ?_ _)); exact BK102.out⟩, ⟨by repeat (first | (with_reducible first | exact HB.out | apply below_alloc | apply pw_below_drewN | apply below_drew1 | refine below_set ?_ GE101.out | refine below_set ?_ GE102.out) | exact HB.out)⟩⟩
            · rw [if_neg c7] at H
              have c7b0 : decide (It.itK x103000_2 < (a1.size : Int)) = false := decide_eq_false c7
              clear c7
              have H' := Aside0.mk H
              clear H
              go_wp2_with (first | ((with_reducible refine gate_dst (N := 17) rfl ?_); refine It.next_no ?hg (N := 17) ?hd (g := gb102) (s := a1) (pos := x103000_2) rfl ?hr (by (with_reducible repeat (first | refine blk_drewN ?_ _ | refine blk_drew ?_ | refine blk_alloc ?_ _)); exact BK102.out) (of_decide_eq_false (by first | (with_reducible assumption) | assumption)) ?_; (case hd => rfl); (case hg => rfl); (case hr => first | rfl | (go_simp; done) | (go_simp; rfl))))
              go_roundg k2
              case measure => have := HK1.out; have := HK2.out; omega
              case rel => exact ⟨((It.itP a0 x102000_1)), H', ⟨by have := HK1.out; have := HK2.out; omega⟩, ⟨by (with_reducible repeat (first | refine blk_drewN ?_ _ | refine blk_drew ?_ | refine blk_alloc ?_ _)); exact BK101.out⟩, ⟨by repeat (first | (with_reducible first | exact HB.out | apply below_alloc | apply pw_below_drewN | apply below_drew1 | refine below_set ?_ GE101.out | refine below_set ?_ GE102.out) | exact HB.out)⟩⟩
      · rw [if_neg c4] at H
        have c4b0 : decide (It.itK x102000_1 < (a0.size : Int)) = false := decide_eq_false c4
        clear c4
        obtain rfl := Option.some.inj H
        go_wp2_with (first | ((with_reducible refine gate_dst (N := 11) rfl ?_); refine It.next_no ?hg (N := 11) ?hd (g := gb101) (s := a0) (pos := x102000_1) rfl ?hr (by (with_reducible repeat (first | refine blk_drewN ?_ _ | refine blk_drew ?_ | refine blk_alloc ?_ _)); exact BK101.out) (of_decide_eq_false (by first | (with_reducible assumption) | assumption)) ?_; (case hd => rfl); (case hg => rfl); (case hr => first | rfl | (go_simp; done) | (go_simp; rfl))))
        go_ret
        exact ⟨by first | rfl | (simp [errW_none, errW_some] <;> rfl) | (simp [*, errW_none, errW_some] <;> rfl), by repeat (first | (with_reducible first | exact HB.out | apply below_alloc | apply pw_below_drewN | apply below_drew1 | refine below_set ?_ GE101.out) | exact HB.out)⟩

/-! ### table_zzContainsAny: function 69 -/
def table_zzContainsAny.f (k : Nat) (a0 : ByteArray) (a1 : ByteArray) : Option (Bool) := (table_zzIndexAny.f k a0 a1).bind fun t103 => (some (decide (t103 ≥ 0)))
theorem table_zzContainsAny.mono : ∀ a0 a1 k, LeO (table_zzContainsAny.f k a0 a1) (table_zzContainsAny.f (k + 1) a0 a1) := by
  intro a0 a1 k
  unfold table_zzContainsAny.f
  repeat' first
      | (with_reducible exact table_zzIndexAny.mono _ _ _)
      | (with_reducible exact LeO.refl _)
      | (with_reducible exact LeO.none _)
      | (with_reducible refine LeO.ite ?_ ?_)
      | (with_reducible refine LeO.bind ?_ (fun _ => ?_))
      | exact table_zzIndexAny.mono _ _ _
      | exact LeO.none _
      | refine LeO.ite ?_ ?_
      | refine LeO.bind ?_ (fun _ => ?_)
set_option maxHeartbeats 8000000 in
set_option maxRecDepth 100000 in
theorem table_zzContainsAny.calls (k : Nat) (a0 : ByteArray) (a1 : ByteArray) (r : Bool) (w : World) (h : table_zzContainsAny.f k a0 a1 = some r) :
    Calls Try.prog 69 #[.string a0, .string a1] w fun e w' => e = .returned (.bool r) ∧ Below w.heap.size w w' := by
  have HB := Aside0.mk (Below.refl w.heap.size w)
  have H : ((table_zzIndexAny.f k a0 a1).bind fun t103 => (some (decide (t103 ≥ 0)))) = some r := h
  clear h
  replace H := Option.bind_eq_some_iff.mp H
  obtain ⟨t103, A30, H⟩ := H
  replace H : (some (decide (t103 ≥ 0))) = some r := H
  have A3 := Aside0.mk A30
  clear A30
  obtain rfl := Option.some.inj H
  go_enter Try.func69, Try.ntmps69
  go_wp2_with (first | ((with_reducible refine gate_callee (f := 79) rfl ?_); refine goesL_ (some 7) rfl rfl Try.func79 (by kernel_rfl) rfl #[.string a0, .string a1] rfl (by (try simp only [List.map_toArray, List.map_cons, List.map_nil]); first | done | rfl | (simp only [List.length_drop, List.length_take]; rfl)) ?_; (with_reducible refine (table_zzIndexAny.calls k a0 a1 t103 _ A3.out).mono ?_); rintro e w4 ⟨rfl, hb⟩; refine ⟨_, rfl, ?_⟩; have n0_ := Aside0.mk (below_step (by repeat (first | (with_reducible first | exact HB.out | apply below_alloc | apply pw_below_drewN | apply below_drew1) | exact HB.out)) hb); clear HB; have HB := n0_; clear n0_; (try clear hb); (try clear hb2); (try clear hk); (try clear hi)))
  go_ret
  exact ⟨by first | rfl | (simp [errW_none, errW_some] <;> rfl) | (simp [*, errW_none, errW_some] <;> rfl), by repeat (first | (with_reducible first | exact HB.out | apply below_alloc | apply pw_below_drewN | apply below_drew1) | exact HB.out)⟩

/-- THE ONE PURE STATEMENT of table_zzContainsAny: yours. -/
def table_zzContainsAny.Pure : Prop := ∀ (a0 : ByteArray) (a1 : ByteArray), a0.size ≤ 140737488351232 → a1.size ≤ 140737488351232 → ∃ k, table_zzContainsAny.f k a0 a1 = some true
theorem table_zzContainsAny.walk (P : table_zzContainsAny.Pure) (a0 : ByteArray) (a1 : ByteArray) (w : World) (w0 : a0.size ≤ 140737488351232) (w1 : a1.size ≤ 140737488351232) :
    Calls Try.prog 69 #[.string a0, .string a1] w fun e w' => e = .returned (.bool true) ∧ Below w.heap.size w w' := by
  obtain ⟨k, h⟩ := P a0 a1 w0 w1
  refine (table_zzContainsAny.calls k a0 a1 true w h).mono ?_
  rintro e w' ⟨rfl, hd⟩
  exact ⟨rfl, hd⟩

end Go.Proofs.Ytimefacdnabkdab.PzzContainsAny
