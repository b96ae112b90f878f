-- Written by hprint.py, a program of this session
import Derived.Test.YthepbgakfkiliaaRDoorPFnTextEscapex0
import Derived.Test.YthepbgakfkiliaaRDoorPFnTextEscapex1
import Derived.Test.YthepbgakfkiliaaRDoorPFnTextEscapex3
import Derived.Test.YthepbgakfkiliaaRDoorPFnTextEscapex4
namespace Go.Proofs.YthepbgakfkiliaaRDoor.PFnTextEscape
open Go.RowKit Go.Proofs.YthepbgakfkiliaaRDoor.Hand Go.Proofs.YthepbgakfkiliaaRDoorW.PrintWords Go.Proofs.YthepbgakfkiliaaRDoorW.PrintLast Go.Proofs.YthepbgakfkiliaaRDoorW.PrintMore
attribute [local go_sem] max2_int min2_int max_two min_two max_three min_three max_four min_four   -- for this text's walks alone
set_option linter.unusedVariables false
set_option linter.unusedSimpArgs false

/-! ### spec_TxEscaped: function 12 -/
def spec_TxEscaped.l0 : Nat → List (S43) → ByteArray → ByteArray → List (S43) → Int → Int → Option (ByteArray)
  | 0, _, _, _, _, _, _ => none
  | k + 1, x0, x1, x5, x8, x9, x10 => if x10 < x9 then (if 0 ≤ x10 then (if x10 < (x8.length : Int) then (if ((rd_T43 x8 x10).f0) > 0 then ((spec_TxSequence.f k (([(rd_T43 x8 x10).f0] : List Int))).bind fun t132 => (if t132.size + ((rd_T43 x8 x10).f1).size ≤ 9223372036854775807 then (if (t132 ++ ((rd_T43 x8 x10).f1)).size + 4 ≤ 9223372036854775807 then (if x5.size + ((t132 ++ ((rd_T43 x8 x10).f1)) ++ (⟨#[27, 91, 48, 109]⟩ : ByteArray)).size ≤ 9223372036854775807 then (spec_TxEscaped.l0 k x0 x1 (x5 ++ ((t132 ++ ((rd_T43 x8 x10).f1)) ++ (⟨#[27, 91, 48, 109]⟩ : ByteArray))) x8 x9 (wrap64 (x10 + 1))) else (none)) else (none)) else (none))) else (if x1.size + ((rd_T43 x8 x10).f1).size ≤ 9223372036854775807 then (if x5.size + (x1 ++ ((rd_T43 x8 x10).f1)).size ≤ 9223372036854775807 then (if x10 = (wrap64 ((x0.length : Int) - 1)) then (if (x5 ++ (x1 ++ ((rd_T43 x8 x10).f1))).size + 4 ≤ 9223372036854775807 then (spec_TxEscaped.l0 k x0 x1 ((x5 ++ (x1 ++ ((rd_T43 x8 x10).f1))) ++ (⟨#[27, 91, 48, 109]⟩ : ByteArray)) x8 x9 (wrap64 (x10 + 1))) else (none)) else (spec_TxEscaped.l0 k x0 x1 (x5 ++ (x1 ++ ((rd_T43 x8 x10).f1))) x8 x9 (wrap64 (x10 + 1)))) else (none)) else (none))) else (none)) else (none)) else (some x5)
def spec_TxEscaped.f (k : Nat) (l0 : List (S43)) (a1 : ByteArray) : Option (ByteArray) := spec_TxEscaped.l0 k l0 a1 (⟨#[]⟩ : ByteArray) l0 (l0.length : Int) 0
theorem spec_TxEscaped.mono_l : ∀ k, (∀ y0 y1 y2 y3 y4 y5, LeO (spec_TxEscaped.l0 k y0 y1 y2 y3 y4 y5) (spec_TxEscaped.l0 (k + 1) y0 y1 y2 y3 y4 y5))
  | 0 => fun _ _ _ _ _ _ r h => by simp [spec_TxEscaped.l0] at h
  | k + 1 => by
    have ih0 := spec_TxEscaped.mono_l k
    · intro y0 y1 y2 y3 y4 y5
      unfold spec_TxEscaped.l0
      repeat' first
      | (with_reducible exact ih0 _ _ _ _ _ _)
      | (with_reducible exact spec_TxSequence.mono _ _)
      | (with_reducible exact LeO.refl _)
      | (with_reducible exact LeO.none _)
      | (with_reducible refine LeO.ite ?_ ?_)
      | (with_reducible refine LeO.bind ?_ (fun _ => ?_))
      | exact ih0 _ _ _ _ _ _
      | exact spec_TxSequence.mono _ _
      | exact LeO.none _
      | refine LeO.ite ?_ ?_
      | refine LeO.bind ?_ (fun _ => ?_)
theorem spec_TxEscaped.mono : ∀ a0 a1 k, LeO (spec_TxEscaped.f k a0 a1) (spec_TxEscaped.f (k + 1) a0 a1) := by
  intro a0 a1 k
  have ih0 := spec_TxEscaped.mono_l k
  unfold spec_TxEscaped.f
  repeat' first
      | (with_reducible exact ih0 _ _ _ _ _ _)
      | (with_reducible exact spec_TxSequence.mono _ _)
      | (with_reducible exact LeO.refl _)
      | (with_reducible exact LeO.none _)
      | (with_reducible refine LeO.ite ?_ ?_)
      | (with_reducible refine LeO.bind ?_ (fun _ => ?_))
      | exact ih0 _ _ _ _ _ _
      | exact spec_TxSequence.mono _ _
      | exact LeO.none _
      | refine LeO.ite ?_ ?_
      | refine LeO.bind ?_ (fun _ => ?_)
def spec_TxEscaped.T6 : Bool × List (List Nat × List Nat) := (true, [([], []), ([], []), ([1], [1]), ([2], [2]), ([3], [3]), ([], []), ([5], [5]), ([4, 6], [4, 6]), ([7], [7]), ([0, 8], [0, 8]), ([9, 4, 0, 1, 2, 3, 4, 5, 6, 7, 8, 9], [0, 9])])
def spec_TxEscaped.B6 : List Nat := [0, 0, 2, 6, 14, 0, 32, 126, 254, 511, 1023]
theorem spec_TxEscaped.tab6 : rtab .any (opsOf Tryd.f12 6) = spec_TxEscaped.T6 := by kernel_rfl
theorem spec_TxEscaped.bits6 : waitsOk spec_TxEscaped.T6.2 spec_TxEscaped.B6 = true := by kernel_rfl
set_option maxHeartbeats 8000000 in
set_option maxRecDepth 100000 in
theorem spec_TxEscaped.calls (k : Nat) (A0 : Option Addr) (c0 : Nat) (l0 : List (S43)) (a1 : ByteArray) (r : ByteArray) (w : World) (hT : LaidW w) (hr0 : Kd.C k43 w A0 l0.length l0) (hc0 : l0.length ≤ c0) (h : spec_TxEscaped.f k l0 a1 = some r) :
    Calls Tryd.prog 12 #[.slice A0 l0.length c0, .string a1] w fun e w' => e = .returned (.string r) ∧ Below w.heap.size w w' := by
  have hu43 := Tryd.underlying43
  have HR0 := Aside0.mk hr0
  have HC0 := Aside0.mk hc0
  clear hr0 hc0
  have HB := Aside0.mk (Below.refl w.heap.size w)
  have H : (spec_TxEscaped.l0 k l0 a1 (⟨#[]⟩ : ByteArray) l0 (l0.length : Int) 0) = some r := h
  clear h
  have H' := Aside0.mk H
  clear H
  go_enter Tryd.func12, Tryd.ntmps12
  go_wp2
  go_loopg [5, 10] k (fun kq v5 v10 w' => ∃ (x5_1 : ByteArray) (x10_1 : Int), v5 = .string x5_1 ∧ v10 = .int .i64 x10_1 ∧ Aside0 (spec_TxEscaped.l0 kq l0 a1 x5_1 l0 (l0.length : Int) x10_1 = some r) ∧ Aside0 (kq ≤ k) ∧ Aside0 (Below w.heap.size w w'))
  case atStart => exact ⟨((⟨#[]⟩ : ByteArray)), (0), (by first | rfl | (simp; done) | (simp [*]; done)), (by first | rfl | (simp; done) | (simp [*]; done)), H', ⟨Nat.le_refl _⟩, ⟨by repeat (first | (with_reducible first | exact HB.out | apply below_alloc | apply pw_below_drewN | apply below_drew1) | exact HB.out)⟩⟩
  case round =>
    clear H'
    try clear c1
    try clear p2
    obtain ⟨x5_1, x10_1, rfl, rfl, HA, HK1, HB⟩ := hrel
    cases gk with
    | zero => exact absurd HA.out (by simp [spec_TxEscaped.l0])
    | succ k1 =>
      have H := HA.out
      clear HA
      simp only [spec_TxEscaped.l0] at H
      by_cases c3 : x10_1 < (l0.length : Int)
      · rw [if_pos c3] at H
        have c3b0 : decide (x10_1 < (l0.length : Int)) = true := decide_eq_true c3
        clear c3
        by_cases c4 : 0 ≤ x10_1
        · rw [if_pos c4] at H
          have c4b0 : decide (0 ≤ x10_1) = true := decide_eq_true c4
          clear c4
          by_cases c5 : x10_1 < (l0.length : Int)
          · rw [if_pos c5] at H
            have c5b0 : decide (x10_1 < (l0.length : Int)) = true := decide_eq_true c5
            clear c5
            by_cases c6 : ((rd_T43 l0 x10_1).f0) > 0
            · rw [if_pos c6] at H
              have c6b0 : decide (0 < ((rd_T43 l0 x10_1).f0)) = true := decide_eq_true c6
              clear c6
              obtain ⟨y129, hy129⟩ : ∃ y_ : List Int, y_ = (([(rd_T43 l0 x10_1).f0] : List Int)) := ⟨_, rfl⟩
              replace H : ((spec_TxSequence.f k1 y129).bind fun t132 => (if t132.size + ((rd_T43 l0 x10_1).f1).size ≤ 9223372036854775807 then (if (t132 ++ ((rd_T43 l0 x10_1).f1)).size + 4 ≤ 9223372036854775807 then (if x5_1.size + ((t132 ++ ((rd_T43 l0 x10_1).f1)) ++ (⟨#[27, 91, 48, 109]⟩ : ByteArray)).size ≤ 9223372036854775807 then (spec_TxEscaped.l0 k1 l0 a1 (x5_1 ++ ((t132 ++ ((rd_T43 l0 x10_1).f1)) ++ (⟨#[27, 91, 48, 109]⟩ : ByteArray))) l0 (l0.length : Int) (wrap64 (x10_1 + 1))) else (none)) else (none)) else (none))) = some r := by first | (rw [hy129]; with_reducible exact H) | (have H2_ := (Option.bind_some _ _).symm.trans H; rw [hy129]; with_reducible exact H2_) | (have H2_ := (Option.bind_some _ _).symm.trans H; with_reducible exact H2_) | with_reducible exact H | (rw [hy129]; exact H) | exact H
              have Ny129 := Aside0.mk hy129
              clear hy129
              replace H := Option.bind_eq_some_iff.mp H
              obtain ⟨t132, A70, H⟩ := H
              replace H : (if t132.size + ((rd_T43 l0 x10_1).f1).size ≤ 9223372036854775807 then (if (t132 ++ ((rd_T43 l0 x10_1).f1)).size + 4 ≤ 9223372036854775807 then (if x5_1.size + ((t132 ++ ((rd_T43 l0 x10_1).f1)) ++ (⟨#[27, 91, 48, 109]⟩ : ByteArray)).size ≤ 9223372036854775807 then (spec_TxEscaped.l0 k1 l0 a1 (x5_1 ++ ((t132 ++ ((rd_T43 l0 x10_1).f1)) ++ (⟨#[27, 91, 48, 109]⟩ : ByteArray))) l0 (l0.length : Int) (wrap64 (x10_1 + 1))) else (none)) else (none)) else (none)) = some r := H
              have A7 := Aside0.mk A70
              clear A70
              by_cases c8 : t132.size + ((rd_T43 l0 x10_1).f1).size ≤ 9223372036854775807
              · rw [if_pos c8] at H
                have c8b0 := eq_true c8
                have c8b1 : decide (t132.size + ((rd_T43 l0 x10_1).f1).size ≤ 9223372036854775807) = true := decide_eq_true c8
                try have c8b2 : (9223372036854775807 < t132.size + ((rd_T43 l0 x10_1).f1).size) = False := eq_false (Nat.not_lt.2 c8)
                by_cases c9 : (t132 ++ ((rd_T43 l0 x10_1).f1)).size + 4 ≤ 9223372036854775807
                · rw [if_pos c9] at H
                  have c9b0 := eq_true c9
                  have c9b1 : decide ((t132 ++ ((rd_T43 l0 x10_1).f1)).size + 4 ≤ 9223372036854775807) = true := decide_eq_true c9
                  try have c9b2 : (9223372036854775807 < (t132 ++ ((rd_T43 l0 x10_1).f1)).size + 4) = False := eq_false (Nat.not_lt.2 c9)
                  try have c9b3 : (9223372036854775807 < t132.size + ((rd_T43 l0 x10_1).f1).size + 4) = False := eq_false (Nat.not_lt.2 (by have z_ := c9; simp only [ByteArray.size_append] at z_; exact z_))
                  by_cases c10 : x5_1.size + ((t132 ++ ((rd_T43 l0 x10_1).f1)) ++ (⟨#[27, 91, 48, 109]⟩ : ByteArray)).size ≤ 9223372036854775807
                  · rw [if_pos c10] at H
                    have c10b0 := eq_true c10
                    have c10b1 : decide (x5_1.size + ((t132 ++ ((rd_T43 l0 x10_1).f1)) ++ (⟨#[27, 91, 48, 109]⟩ : ByteArray)).size ≤ 9223372036854775807) = true := decide_eq_true c10
                    try have c10b2 : (9223372036854775807 < x5_1.size + ((t132 ++ ((rd_T43 l0 x10_1).f1)) ++ (⟨#[27, 91, 48, 109]⟩ : ByteArray)).size) = False := eq_false (Nat.not_lt.2 c10)
                    try have c10b3 : (9223372036854775807 < x5_1.size + (t132.size + ((rd_T43 l0 x10_1).f1).size + 4)) = False := eq_false (Nat.not_lt.2 (by have z_ := c10; simp only [ByteArray.size_append] at z_; exact z_))
                    have H' := Aside0.mk H
                    clear H
                    have p127 : 0 ≤ (x10_1 : Int) := of_decide_eq_true (by first | (with_reducible assumption) | assumption)
                    have q127 : x10_1 < (l0.length : Int) := of_decide_eq_true (by first | (with_reducible assumption) | assumption)
                    obtain ⟨ad127, e127, hx127_0, hx127_1⟩ := at_T43 HR0.out x10_1 p127 q127
                    cases e127
                    replace hx127_0 := (HB.out.cell (World.block_lt_of_cell? w _ hx127_0)).trans hx127_0
                    replace hx127_1 := (HB.out.cell (World.block_lt_of_cell? w _ hx127_1)).trans hx127_1
                    (try simp only [Go.IntWalk.toNatUp] at hx127_0)
                    (try simp only [Go.IntWalk.toNatUp] at hx127_1)
                    replace p127 := eq_true p127
                    replace q127 := eq_true q127
                    try go_wp2_with (first | ((with_reducible refine gate_dst (N := 7) rfl ?_); refine box_event ?hg (N := 7) ?hd (cs := #[.int .i64 0, .string (⟨#[]⟩ : ByteArray)]) (t := 43) ?hr ?_; (case hd => rfl); (case hg => rfl); (case hr => first | (go_simp; done) | (go_simp; rfl)); intro gb128 hg w11 hbox hb; have n0_ := Aside0.mk (below_step (by repeat (first | (with_reducible first | exact HB.out | apply below_alloc | apply pw_below_drewN | apply below_drew1) | exact HB.out)) hb); have n1_ := Aside0.mk (hbox); have n2_ := Aside0.mk ((by rw [hg]; exact (below_size (by repeat (first | (with_reducible first | exact HB.out | apply below_alloc | apply pw_below_drewN | apply below_drew1) | exact HB.out))) : w.heap.size ≤ gb128)); have n3_ := Aside0.mk ((by rw [hg]; exact (below_size (by repeat (first | (with_reducible first | exact HB.out | apply below_alloc | apply pw_below_drewN | apply below_drew1) | exact HB.out))) : w.heap.size ≤ gb128)); clear HB; have HB := n0_; have BK128 := n1_; have GW128 := n2_; have GE128 := n3_; clear n0_ n1_ n2_ n3_; clear hb hbox hg; have hcz12_0 : w11.cell? ⟨gb128, 0, none⟩ = some (.int .i64 0) := (blk_cell BK128.out 0).trans rfl; have hcz12_1 : w11.cell? ⟨gb128, 1, none⟩ = some (.string (⟨#[]⟩ : ByteArray)) := (blk_cell BK128.out 1).trans rfl; have hfz12_0 := blk_frozen BK128.out 0; have hfz12_1 := blk_frozen BK128.out 1))
                    have n0_ : Aside0 (((w11.setCell ⟨gb128, 0, none⟩ (.int .i64 ((rd_T43 l0 x10_1).f0))).setCell ⟨gb128, 1, none⟩ (.string ((rd_T43 l0 x10_1).f1))).heap[gb128]? = some (.cells #[.int .i64 ((rd_T43 l0 x10_1).f0), .string ((rd_T43 l0 x10_1).f1)] 43 (0, 0))) := ⟨by (with_reducible repeat (first | refine blk_drewN ?_ _ | refine blk_drew ?_ | refine blk_alloc ?_ _)); refine blk_put (cs := #[.int .i64 ((rd_T43 l0 x10_1).f0), .string (⟨#[]⟩ : ByteArray)]) ?_ 1 _ rfl; (with_reducible repeat (first | refine blk_drewN ?_ _ | refine blk_drew ?_ | refine blk_alloc ?_ _)); refine blk_put (cs := #[.int .i64 0, .string (⟨#[]⟩ : ByteArray)]) ?_ 0 _ rfl; (with_reducible repeat (first | refine blk_drewN ?_ _ | refine blk_drew ?_ | refine blk_alloc ?_ _)); exact BK128.out⟩
                    have n1_ : Aside0 (Below w.heap.size w ((w11.setCell ⟨gb128, 0, none⟩ (.int .i64 ((rd_T43 l0 x10_1).f0))).setCell ⟨gb128, 1, none⟩ (.string ((rd_T43 l0 x10_1).f1)))) := ⟨by repeat (first | (with_reducible first | exact HB.out | apply below_alloc | apply pw_below_drewN | apply below_drew1 | refine below_set ?_ GE128.out) | exact HB.out)⟩
                    (try clear BK128)
                    (try clear HB)
                    generalize ((w11.setCell ⟨gb128, 0, none⟩ (.int .i64 ((rd_T43 l0 x10_1).f0))).setCell ⟨gb128, 1, none⟩ (.string ((rd_T43 l0 x10_1).f1))) = w13 at n0_ n1_ ⊢
                    have BK128 := n0_
                    have HB := n1_
                    clear n0_ n1_
                    have n0_ := Aside0.mk (blk_drew BK128.out)
                    have n1_ := Aside0.mk (below_drew1 HB.out)
                    clear BK128
                    clear HB
                    have BK128 := n0_
                    have HB := n1_
                    clear n0_ n1_
                    refine start_ (n := 11) (S := fun w' => w'.cell? ⟨gb128, 0, none⟩ = some (.int .i64 ((rd_T43 l0 x10_1).f0)) ∧ w'.cell? ⟨gb128, 1, none⟩ = some (.string ((rd_T43 l0 x10_1).f1))) (ds := []) #[false, false, false, false, false, false, false, false, false, false, false] (by kernel_rfl) rfl rfl ⟨(blk_cell BK128.out 0).trans rfl, (blk_cell BK128.out 1).trans rfl⟩ (fun hHeld => ?_); refine with_tabW spec_TxEscaped.tab6 spec_TxEscaped.bits6 (fun HT_ HW_ => ?_)
                    generalize w13.drew = w14 at BK128 HB hHeld ⊢
                    refine pure_ (i := 0) (N := some 18) (v := ?_) (a' := ?_) #[true, false, false, false, false, false, false, false, false, false, false] rfl rfl (any_of HT_.out (by kernel_rfl)) (fun _ _ _ h => h) (Or.inl ⟨by rfl, ?_⟩) ?_ ?_
                    rotate_left
                    · intro w'
                      go_simp
                      with_reducible rfl
                    rotate_left
                    · simp only [Act.put, List.setIfInBounds_toArray, List.set_cons_zero, List.set_cons_succ, i64_w, i32_w]
                      rfl
                    refine pure_ (i := 1) (N := some 19) (v := ?_) (a' := ?_) #[true, true, false, false, false, false, false, false, false, false, false] rfl rfl (any_of HT_.out (by kernel_rfl)) (fun _ _ _ h => h) (Or.inl ⟨by rfl, ?_⟩) ?_ ?_
                    rotate_left
                    · intro w'
                      go_simp
                      with_reducible rfl
                    rotate_left
                    · simp only [Act.put, List.setIfInBounds_toArray, List.set_cons_zero, List.set_cons_succ, i64_w, i32_w]
                      rfl
                    refine pure_ (i := 5) (N := some 23) (v := ?_) (a' := ?_) #[true, true, false, false, false, true, false, false, false, false, false] rfl rfl (any_of HT_.out (by kernel_rfl)) (fun _ _ _ h => h) (Or.inl ⟨by rfl, ?_⟩) ?_ ?_
                    rotate_left
                    · intro w'
                      go_simp
                      with_reducible rfl
                    rotate_left
                    · simp only [Act.put, List.setIfInBounds_toArray, List.set_cons_zero, List.set_cons_succ, i64_w, i32_w]
                      rfl
                    refine take_ (i := 2) (N := some 20) (v := ?_) (a' := ?_) #[true, true, true, false, false, true, false, false, false, false, false] rfl rfl (take_ofW HT_.out HW_.out (by kernel_rfl)) (fun _ _ _ h => h) (Or.inl ⟨by rfl, ?_⟩) hHeld ?_ ?_
                    rotate_left
                    · rintro w' ⟨s0, s1⟩
                      go_simp
                      with_reducible rfl
                    rotate_left
                    · simp only [Act.put, List.setIfInBounds_toArray, List.set_cons_zero, List.set_cons_succ, i64_w, i32_w]
                      rfl
                    refine take_ (i := 6) (N := some 24) (v := ?_) (a' := ?_) #[true, true, true, false, false, true, true, false, false, false, false] rfl rfl (take_ofW HT_.out HW_.out (by kernel_rfl)) (fun _ _ _ h => h) (Or.inl ⟨by rfl, ?_⟩) hHeld ?_ ?_
                    rotate_left
                    · rintro w' ⟨s0, s1⟩
                      go_simp
                      with_reducible rfl
                    rotate_left
                    · simp only [Act.put, List.setIfInBounds_toArray, List.set_cons_zero, List.set_cons_succ, i64_w, i32_w]
                      rfl
                    refine one_ (i := 3) (N := some 21) #[true, true, true, true, false, true, true, false, false, false, false] rfl rfl (one_of HT_.out (by kernel_rfl)) (by decide) (fun K hK => ?_)
                    refine Kd.R_lit_step (Kd.int .i64) _ 3 ?hg (N := 21) ?hd (xs := ([(rd_T43 l0 x10_1).f0] : List Int)) (inner := [.int .i64 ((rd_T43 l0 x10_1).f0)]) (ok := fun _ => True) (okp := fun _ => True) ?hr ?hp (fun _ hk => hk) trivial (Below.refl _ _) (Nat.le_refl _) (by simp) ?_; (case hd => rfl); (case hg => rfl); (case hr => first | (go_simp; done) | (go_simp; rfl)); (case hp => exact (Reps.one (show Kd.M (Kd.int .i64) _ _ _ ((rd_T43 l0 x10_1).f0) [.int .i64 ((rd_T43 l0 x10_1).f0)] from rfl) (Reps.none _ _)))
                    intro v130 w15 ho16 hb hg_ hnew_
                    clear hg_ hnew_
                    (first | rw [← Ny129.out] at ho16 | (simp only [Int.reduceToNat] at ho16; rw [← Ny129.out] at ho16))
                    have n0_ := Aside0.mk (Kd.R_lower ho16 (below_size (by repeat (first | (with_reducible first | exact HB.out | apply below_alloc | apply pw_below_drewN | apply below_drew1 | refine below_set ?_ GE128.out) | exact HB.out))))
                    have n1_ := Aside0.mk (blk_below (g := gb128) (o := .cells #[.int .i64 ((rd_T43 l0 x10_1).f0), .string ((rd_T43 l0 x10_1).f1)] 43 (0, 0)) (by (with_reducible repeat (first | refine blk_drewN ?_ _ | refine blk_drew ?_ | refine blk_alloc ?_ _)); exact BK128.out) hb)
                    have n2_ := Aside0.mk (below_step (by repeat (first | (with_reducible first | exact HB.out | apply below_alloc | apply pw_below_drewN | apply below_drew1 | refine below_set ?_ GE128.out) | exact HB.out)) hb)
                    clear BK128
                    clear HB
                    have HO131 := n0_
                    have BK128 := n1_
                    have HB := n2_
                    clear n0_ n1_ n2_
                    clear hb ho16
                    obtain ⟨Ao17, co17, eo17⟩ := Kd.R_slice HO131.out
                    (first | subst eo17 | (injection eo17 with f1_ f2_ f3_; have f4_ := f1_.symm; have f5_ := f3_.symm; clear f1_ f2_ f3_; subst f4_; subst f5_))
                    refine hK.out _ _ ⟨(blk_cell BK128.out 0).trans rfl, (blk_cell BK128.out 1).trans rfl⟩ (fun hHeld => ?_)
                    clear hK K
                    refine norm_ (a' := ?_) ?_ ?_
                    rotate_left
                    · show Act.put _ (some 21) _ = _
                      simp only [Act.put, List.setIfInBounds_toArray, List.set_cons_zero, List.set_cons_succ, i64_w, i32_w]
                      rfl
                    refine one_ (i := 4) (N := some 22) #[true, true, true, true, true, true, true, false, false, false, false] rfl rfl (one_of HT_.out (by kernel_rfl)) (by decide) (fun K hK => ?_)
                    refine goes_ Tryd.func9 (by kernel_rfl) rfl #[.slice Ao17 y129.length co17] (by rfl) rfl rfl (by (try simp only [List.map_toArray, List.map_cons, List.map_nil]); first | done | rfl | (simp only [List.length_drop, List.length_take]; rfl)) ?_
                    with_reducible refine (spec_TxSequence.calls k1 _ _ y129 t132 _ ?side1 ?side2 ?side3 A7.out).mono ?_
                    (case side1 => exact LaidW.on hT (by repeat (first | (with_reducible first | exact HB.out | apply below_alloc | apply pw_below_drewN | apply below_drew1 | refine below_set ?_ GE128.out) | exact HB.out)))
                    (case side2 => repeat (first | exact (Kd.R_reads' HO131.out).2.2 | (with_reducible refine Kd.C_alloc ?_ _) | (with_reducible refine Kd.C_drewN ?_ _) | (with_reducible refine Kd.C_drew ?_)))
                    (case side3 => exact (Kd.R_reads' HO131.out).2.1)
                    rintro e w18 ⟨rfl, hb⟩
                    refine ⟨_, rfl, ?_⟩
                    have n0_ := Aside0.mk (Kd.R_below (by (with_reducible repeat (first | apply Kd.R_alloc | apply Kd.R_drewN | apply Kd.R_drew)); exact HO131.out) hb)
                    have n1_ := Aside0.mk (blk_below (g := gb128) (o := .cells #[.int .i64 ((rd_T43 l0 x10_1).f0), .string ((rd_T43 l0 x10_1).f1)] 43 (0, 0)) (by (with_reducible repeat (first | refine blk_drewN ?_ _ | refine blk_drew ?_ | refine blk_alloc ?_ _)); exact BK128.out) hb)
                    have n2_ := Aside0.mk (below_step (by repeat (first | (with_reducible first | exact HB.out | apply below_alloc | apply pw_below_drewN | apply below_drew1 | refine below_set ?_ GE128.out) | exact HB.out)) hb)
                    clear HO131
                    clear BK128
                    clear HB
                    have HO131 := n0_
                    have BK128 := n1_
                    have HB := n2_
                    clear n0_ n1_ n2_
                    (try clear hb)
                    (try clear hb2)
                    (try clear hk)
                    (try clear hi)
                    refine hK.out _ _ ⟨(blk_cell BK128.out 0).trans rfl, (blk_cell BK128.out 1).trans rfl⟩ (fun hHeld => ?_)
                    clear hK K
                    refine norm_ (a' := ?_) ?_ ?_
                    rotate_left
                    · show Act.put _ (some 22) _ = _
                      simp only [Act.put, List.setIfInBounds_toArray, List.set_cons_zero, List.set_cons_succ, i64_w, i32_w]
                      rfl
                    refine pure_ (i := 7) (N := some 25) (v := ?_) (a' := ?_) #[true, true, true, true, true, true, true, true, false, false, false] rfl rfl (any_of HT_.out (by kernel_rfl)) (fun _ _ _ h => h) (Or.inl ⟨by rfl, ?_⟩) ?_ ?_
                    rotate_left
                    · intro w'
                      go_simp
                      with_reducible rfl
                    rotate_left
                    · simp only [Act.put, List.setIfInBounds_toArray, List.set_cons_zero, List.set_cons_succ, i64_w, i32_w]
                      rfl
                    refine pure_ (i := 8) (N := some 26) (v := ?_) (a' := ?_) #[true, true, true, true, true, true, true, true, true, false, false] rfl rfl (any_of HT_.out (by kernel_rfl)) (fun _ _ _ h => h) (Or.inl ⟨by rfl, ?_⟩) ?_ ?_
                    rotate_left
                    · intro w'
                      go_simp
                      with_reducible rfl
                    rotate_left
                    · simp only [Act.put, List.setIfInBounds_toArray, List.set_cons_zero, List.set_cons_succ, i64_w, i32_w]
                      rfl
                    refine pure_ (i := 9) (N := some 27) (v := ?_) (a' := ?_) #[true, true, true, true, true, true, true, true, true, true, false] rfl rfl (any_of HT_.out (by kernel_rfl)) (fun _ _ _ h => h) (Or.inl ⟨by rfl, ?_⟩) ?_ ?_
                    rotate_left
                    · intro w'
                      go_simp
                      with_reducible rfl
                    rotate_left
                    · simp only [Act.put, List.setIfInBounds_toArray, List.set_cons_zero, List.set_cons_succ, i64_w, i32_w]
                      rfl
                    refine pure_ (i := 10) (N := some 5) (v := ?_) (a' := ?_) #[true, true, true, true, true, true, true, true, true, true, true] rfl rfl (any_of HT_.out (by kernel_rfl)) (fun _ _ _ h => h) (Or.inl ⟨by rfl, ?_⟩) ?_ ?_
                    rotate_left
                    · intro w'
                      go_simp
                      with_reducible rfl
                    rotate_left
                    · simp only [Act.put, List.setIfInBounds_toArray, List.set_cons_zero, List.set_cons_succ, i64_w, i32_w]
                      rfl
                    refine done_ (done_of HT_.out (by kernel_rfl)) ?_
                    try go_wp2
                    go_roundg k1
                    case measure => have := HK1.out; omega
                    case rel => exact ⟨(x5_1 ++ ((t132 ++ ((rd_T43 l0 x10_1).f1)) ++ (⟨#[27, 91, 48, 109]⟩ : ByteArray))), (wrap64 (x10_1 + 1)), (by first | rfl | (simp; done) | (simp [*]; done)), (by first | rfl | (simp; done) | (simp [*]; done)), H', ⟨by have := HK1.out; omega⟩, ⟨by repeat (first | (with_reducible first | exact HB.out | apply below_alloc | apply pw_below_drewN | apply below_drew1 | refine below_set ?_ GE128.out) | exact HB.out)⟩⟩
                  · rw [if_neg c10] at H
                    exact absurd H (by simp)
                · rw [if_neg c9] at H
                  exact absurd H (by simp)
              · rw [if_neg c8] at H
                exact absurd H (by simp)
            · rw [if_neg c6] at H
              have c6b0 : decide (0 < ((rd_T43 l0 x10_1).f0)) = false := decide_eq_false c6
              clear c6
              by_cases c19 : a1.size + ((rd_T43 l0 x10_1).f1).size ≤ 9223372036854775807
              · rw [if_pos c19] at H
                have c19b0 := eq_true c19
                have c19b1 : decide (a1.size + ((rd_T43 l0 x10_1).f1).size ≤ 9223372036854775807) = true := decide_eq_true c19
                try have c19b2 : (9223372036854775807 < a1.size + ((rd_T43 l0 x10_1).f1).size) = False := eq_false (Nat.not_lt.2 c19)
                by_cases c20 : x5_1.size + (a1 ++ ((rd_T43 l0 x10_1).f1)).size ≤ 9223372036854775807
                · rw [if_pos c20] at H
                  have c20b0 := eq_true c20
                  have c20b1 : decide (x5_1.size + (a1 ++ ((rd_T43 l0 x10_1).f1)).size ≤ 9223372036854775807) = true := decide_eq_true c20
                  try have c20b2 : (9223372036854775807 < x5_1.size + (a1 ++ ((rd_T43 l0 x10_1).f1)).size) = False := eq_false (Nat.not_lt.2 c20)
                  try have c20b3 : (9223372036854775807 < x5_1.size + (a1.size + ((rd_T43 l0 x10_1).f1).size)) = False := eq_false (Nat.not_lt.2 (by have z_ := c20; simp only [ByteArray.size_append] at z_; exact z_))
                  by_cases c21 : x10_1 = (wrap64 ((l0.length : Int) - 1))
                  · rw [if_pos c21] at H
                    have c21b0 : (x10_1 == (wrap64 ((l0.length : Int) - 1))) = true := beq_iff_eq.mpr c21
                    have c21b1 : (x10_1 != (wrap64 ((l0.length : Int) - 1))) = false := bne_eq_false_iff_eq.mpr c21
                    clear c21
                    by_cases c22 : (x5_1 ++ (a1 ++ ((rd_T43 l0 x10_1).f1))).size + 4 ≤ 9223372036854775807
                    · rw [if_pos c22] at H
                      have c22b0 := eq_true c22
                      have c22b1 : decide ((x5_1 ++ (a1 ++ ((rd_T43 l0 x10_1).f1))).size + 4 ≤ 9223372036854775807) = true := decide_eq_true c22
                      try have c22b2 : (9223372036854775807 < (x5_1 ++ (a1 ++ ((rd_T43 l0 x10_1).f1))).size + 4) = False := eq_false (Nat.not_lt.2 c22)
                      try have c22b3 : (9223372036854775807 < x5_1.size + (a1.size + ((rd_T43 l0 x10_1).f1).size) + 4) = False := eq_false (Nat.not_lt.2 (by have z_ := c22; simp only [ByteArray.size_append] at z_; exact z_))
                      have H' := Aside0.mk H
                      clear H
                      have p127 : 0 ≤ (x10_1 : Int) := of_decide_eq_true (by first | (with_reducible assumption) | assumption)
                      have q127 : x10_1 < (l0.length : Int) := of_decide_eq_true (by first | (with_reducible assumption) | assumption)
                      obtain ⟨ad127, e127, hx127_0, hx127_1⟩ := at_T43 HR0.out x10_1 p127 q127
                      cases e127
                      replace hx127_0 := (HB.out.cell (World.block_lt_of_cell? w _ hx127_0)).trans hx127_0
                      replace hx127_1 := (HB.out.cell (World.block_lt_of_cell? w _ hx127_1)).trans hx127_1
                      (try simp only [Go.IntWalk.toNatUp] at hx127_0)
                      (try simp only [Go.IntWalk.toNatUp] at hx127_1)
                      replace p127 := eq_true p127
                      replace q127 := eq_true q127
                      go_wp2_with (first | ((with_reducible refine gate_dst (N := 7) rfl ?_); refine box_event ?hg (N := 7) ?hd (cs := #[.int .i64 0, .string (⟨#[]⟩ : ByteArray)]) (t := 43) ?hr ?_; (case hd => rfl); (case hg => rfl); (case hr => first | (go_simp; done) | (go_simp; rfl)); intro gb128 hg w23 hbox hb; have n0_ := Aside0.mk (below_step (by repeat (first | (with_reducible first | exact HB.out | apply below_alloc | apply pw_below_drewN | apply below_drew1) | exact HB.out)) hb); have n1_ := Aside0.mk (hbox); have n2_ := Aside0.mk ((by rw [hg]; exact (below_size (by repeat (first | (with_reducible first | exact HB.out | apply below_alloc | apply pw_below_drewN | apply below_drew1) | exact HB.out))) : w.heap.size ≤ gb128)); have n3_ := Aside0.mk ((by rw [hg]; exact (below_size (by repeat (first | (with_reducible first | exact HB.out | apply below_alloc | apply pw_below_drewN | apply below_drew1) | exact HB.out))) : w.heap.size ≤ gb128)); clear HB; have HB := n0_; have BK128 := n1_; have GW128 := n2_; have GE128 := n3_; clear n0_ n1_ n2_ n3_; clear hb hbox hg; have hcz24_0 : w23.cell? ⟨gb128, 0, none⟩ = some (.int .i64 0) := (blk_cell BK128.out 0).trans rfl; have hcz24_1 : w23.cell? ⟨gb128, 1, none⟩ = some (.string (⟨#[]⟩ : ByteArray)) := (blk_cell BK128.out 1).trans rfl; have hfz24_0 := blk_frozen BK128.out 0; have hfz24_1 := blk_frozen BK128.out 1))
                      go_roundg k1
                      case measure => have := HK1.out; omega
                      case rel => exact ⟨((x5_1 ++ (a1 ++ ((rd_T43 l0 x10_1).f1))) ++ (⟨#[27, 91, 48, 109]⟩ : ByteArray)), (wrap64 (x10_1 + 1)), (by first | rfl | (simp; done) | (simp [*]; done)), (by first | rfl | (simp; done) | (simp [*]; done)), H', ⟨by have := HK1.out; omega⟩, ⟨by repeat (first | (with_reducible first | exact HB.out | apply below_alloc | apply pw_below_drewN | apply below_drew1 | refine below_set ?_ GE128.out) | exact HB.out)⟩⟩
                    · rw [if_neg c22] at H
                      exact absurd H (by simp)
                  · rw [if_neg c21] at H
                    have c21b0 : (x10_1 == (wrap64 ((l0.length : Int) - 1))) = false := beq_eq_false_iff_ne.mpr c21
                    have c21b1 : (x10_1 != (wrap64 ((l0.length : Int) - 1))) = true := bne_iff_ne.mpr c21
                    have H' := Aside0.mk H
                    clear H
                    have p127 : 0 ≤ (x10_1 : Int) := of_decide_eq_true (by first | (with_reducible assumption) | assumption)
                    have q127 : x10_1 < (l0.length : Int) := of_decide_eq_true (by first | (with_reducible assumption) | assumption)
                    obtain ⟨ad127, e127, hx127_0, hx127_1⟩ := at_T43 HR0.out x10_1 p127 q127
                    cases e127
                    replace hx127_0 := (HB.out.cell (World.block_lt_of_cell? w _ hx127_0)).trans hx127_0
                    replace hx127_1 := (HB.out.cell (World.block_lt_of_cell? w _ hx127_1)).trans hx127_1
                    (try simp only [Go.IntWalk.toNatUp] at hx127_0)
                    (try simp only [Go.IntWalk.toNatUp] at hx127_1)
                    replace p127 := eq_true p127
                    replace q127 := eq_true q127
                    go_wp2_with (first | ((with_reducible refine gate_dst (N := 7) rfl ?_); refine box_event ?hg (N := 7) ?hd (cs := #[.int .i64 0, .string (⟨#[]⟩ : ByteArray)]) (t := 43) ?hr ?_; (case hd => rfl); (case hg => rfl); (case hr => first | (go_simp; done) | (go_simp; rfl)); intro gb128 hg w25 hbox hb; have n0_ := Aside0.mk (below_step (by repeat (first | (with_reducible first | exact HB.out | apply below_alloc | apply pw_below_drewN | apply below_drew1) | exact HB.out)) hb); have n1_ := Aside0.mk (hbox); have n2_ := Aside0.mk ((by rw [hg]; exact (below_size (by repeat (first | (with_reducible first | exact HB.out | apply below_alloc | apply pw_below_drewN | apply below_drew1) | exact HB.out))) : w.heap.size ≤ gb128)); have n3_ := Aside0.mk ((by rw [hg]; exact (below_size (by repeat (first | (with_reducible first | exact HB.out | apply below_alloc | apply pw_below_drewN | apply below_drew1) | exact HB.out))) : w.heap.size ≤ gb128)); clear HB; have HB := n0_; have BK128 := n1_; have GW128 := n2_; have GE128 := n3_; clear n0_ n1_ n2_ n3_; clear hb hbox hg; have hcz26_0 : w25.cell? ⟨gb128, 0, none⟩ = some (.int .i64 0) := (blk_cell BK128.out 0).trans rfl; have hcz26_1 : w25.cell? ⟨gb128, 1, none⟩ = some (.string (⟨#[]⟩ : ByteArray)) := (blk_cell BK128.out 1).trans rfl; have hfz26_0 := blk_frozen BK128.out 0; have hfz26_1 := blk_frozen BK128.out 1))
                    go_roundg k1
                    case measure => have := HK1.out; omega
                    case rel => exact ⟨(x5_1 ++ (a1 ++ ((rd_T43 l0 x10_1).f1))), (wrap64 (x10_1 + 1)), (by first | rfl | (simp; done) | (simp [*]; done)), (by first | rfl | (simp; done) | (simp [*]; done)), H', ⟨by have := HK1.out; omega⟩, ⟨by repeat (first | (with_reducible first | exact HB.out | apply below_alloc | apply pw_below_drewN | apply below_drew1 | refine below_set ?_ GE128.out) | exact HB.out)⟩⟩
                · rw [if_neg c20] at H
                  exact absurd H (by simp)
              · rw [if_neg c19] at H
                exact absurd H (by simp)
          · rw [if_neg c5] at H
            exact absurd H (by simp)
        · rw [if_neg c4] at H
          exact absurd H (by simp)
      · rw [if_neg c3] at H
        have c3b0 : decide (x10_1 < (l0.length : Int)) = false := decide_eq_false c3
        clear c3
        obtain rfl := Option.some.inj H
        go_wp2
        go_ret
        exact ⟨by first | rfl | (simp [errW_none, errW_some] <;> rfl) | (simp [*, errW_none, errW_some] <;> rfl), by repeat (first | (with_reducible first | exact HB.out | apply below_alloc | apply pw_below_drewN | apply below_drew1) | exact HB.out)⟩

/-! ### laws_FnTextEscape: function 3 -/
def laws_FnTextEscape.j0 : Nat → List (S43) → Int → Bool → Option (Bool)
  | 0, _, _, _ => none
  | k + 1, x0, x1, x16 => if x16 = true then (some true) else ((spec_TxSequence.f k (([x1] : List Int))).bind fun t139 => ((spec_TxColored.f k x0).bind fun t140 => ((impl_TextEscape.f k t140 t139).bind fun t141 => ((spec_TxEscaped.f k x0 t139).bind fun t142 => (some (t141.toList == t142.toList))))))
def laws_FnTextEscape.f (k : Nat) (l0 : List (S43)) (a1 : Int) : Option (Bool) := (laws_zzFits17.f k l0).bind fun t133 => (if t133 = true then ((spec_TxTurns.f k l0).bind fun t134 => (if t134 = true then ((spec_TxAttribute.f a1).bind fun t135 => (laws_FnTextEscape.j0 k l0 a1 (!t135))) else (laws_FnTextEscape.j0 k l0 a1 true))) else (some true))
theorem laws_FnTextEscape.mono_l : ∀ k, (∀ y0 y1 y2, LeO (laws_FnTextEscape.j0 k y0 y1 y2) (laws_FnTextEscape.j0 (k + 1) y0 y1 y2))
  | 0 => fun _ _ _ r h => by simp [laws_FnTextEscape.j0] at h
  | k + 1 => by
    have ih0 := laws_FnTextEscape.mono_l k
    · intro y0 y1 y2
      unfold laws_FnTextEscape.j0
      repeat' first
      | (with_reducible exact ih0 _ _ _)
      | (with_reducible exact impl_TextEscape.mono _ _ _)
      | (with_reducible exact laws_zzFits17.mono _ _)
      | (with_reducible exact spec_TxColored.mono _ _)
      | (with_reducible exact spec_TxEscaped.mono _ _ _)
      | (with_reducible exact spec_TxSequence.mono _ _)
      | (with_reducible exact spec_TxTurns.mono _ _)
      | (with_reducible exact LeO.refl _)
      | (with_reducible exact LeO.none _)
      | (with_reducible refine LeO.ite ?_ ?_)
      | (with_reducible refine LeO.bind ?_ (fun _ => ?_))
      | exact ih0 _ _ _
      | exact impl_TextEscape.mono _ _ _
      | exact laws_zzFits17.mono _ _
      | exact spec_TxColored.mono _ _
      | exact spec_TxEscaped.mono _ _ _
      | exact spec_TxSequence.mono _ _
      | exact spec_TxTurns.mono _ _
      | exact LeO.none _
      | refine LeO.ite ?_ ?_
      | refine LeO.bind ?_ (fun _ => ?_)
theorem laws_FnTextEscape.mono : ∀ a0 a1 k, LeO (laws_FnTextEscape.f k a0 a1) (laws_FnTextEscape.f (k + 1) a0 a1) := by
  intro a0 a1 k
  have ih0 := laws_FnTextEscape.mono_l k
  unfold laws_FnTextEscape.f
  repeat' first
      | (with_reducible exact ih0 _ _ _)
      | (with_reducible exact impl_TextEscape.mono _ _ _)
      | (with_reducible exact laws_zzFits17.mono _ _)
      | (with_reducible exact spec_TxColored.mono _ _)
      | (with_reducible exact spec_TxEscaped.mono _ _ _)
      | (with_reducible exact spec_TxSequence.mono _ _)
      | (with_reducible exact spec_TxTurns.mono _ _)
      | (with_reducible exact LeO.refl _)
      | (with_reducible exact LeO.none _)
      | (with_reducible refine LeO.ite ?_ ?_)
      | (with_reducible refine LeO.bind ?_ (fun _ => ?_))
      | exact ih0 _ _ _
      | exact impl_TextEscape.mono _ _ _
      | exact laws_zzFits17.mono _ _
      | exact spec_TxColored.mono _ _
      | exact spec_TxEscaped.mono _ _ _
      | exact spec_TxSequence.mono _ _
      | exact spec_TxTurns.mono _ _
      | exact LeO.none _
      | refine LeO.ite ?_ ?_
      | refine LeO.bind ?_ (fun _ => ?_)
set_option maxHeartbeats 8000000 in
set_option maxRecDepth 100000 in
theorem laws_FnTextEscape.calls (k : Nat) (A0 : Option Addr) (c0 : Nat) (l0 : List (S43)) (a1 : Int) (r : Bool) (w : World) (hT : LaidW w) (hr0 : Kd.C k43 w A0 l0.length l0) (hc0 : l0.length ≤ c0) (h : laws_FnTextEscape.f k l0 a1 = some r) :
    Calls Tryd.prog 3 #[.slice A0 l0.length c0, .int .i64 a1] w fun e w' => e = .returned (.bool r) ∧ Below w.heap.size w w' := by
  have HR0 := Aside0.mk hr0
  have HC0 := Aside0.mk hc0
  clear hr0 hc0
  have HB := Aside0.mk (Below.refl w.heap.size w)
  have H : ((laws_zzFits17.f k l0).bind fun t133 => (if t133 = true then ((spec_TxTurns.f k l0).bind fun t134 => (if t134 = true then ((spec_TxAttribute.f a1).bind fun t135 => (laws_FnTextEscape.j0 k l0 a1 (!t135))) else (laws_FnTextEscape.j0 k l0 a1 true))) else (some true))) = some r := h
  clear h
  replace H := Option.bind_eq_some_iff.mp H
  obtain ⟨t133, A30, H⟩ := H
  replace H : (if t133 = true then ((spec_TxTurns.f k l0).bind fun t134 => (if t134 = true then ((spec_TxAttribute.f a1).bind fun t135 => (laws_FnTextEscape.j0 k l0 a1 (!t135))) else (laws_FnTextEscape.j0 k l0 a1 true))) else (some true)) = some r := H
  have A3 := Aside0.mk A30
  clear A30
  by_cases c4 : t133 = true
  · subst c4
    have H1 : ((spec_TxTurns.f k l0).bind fun t134 => (if t134 = true then ((spec_TxAttribute.f a1).bind fun t135 => (laws_FnTextEscape.j0 k l0 a1 (!t135))) else (laws_FnTextEscape.j0 k l0 a1 true))) = some r := by rw [if_pos rfl] at H; exact H
    clear H
    have H := H1
    clear H1
    have HC5 := Aside0.mk H
    clear H
    go_enter Tryd.func3, Tryd.ntmps3
    go_upto_region 3 with (first | ((with_reducible refine gate_callee (f := 6) rfl ?_); refine goesL_ (some 7) rfl rfl Tryd.func6 (by kernel_rfl) rfl #[.slice A0 l0.length c0] rfl (by (try simp only [List.map_toArray, List.map_cons, List.map_nil]); first | done | rfl | (simp only [List.length_drop, List.length_take]; rfl)) ?_; (with_reducible refine (laws_zzFits17.calls k _ _ l0 true _ ?side1 ?side2 A3.out).mono ?_); (case side1 => repeat (first | exact HR0.out | (with_reducible refine Kd.C_alloc ?_ _) | (with_reducible refine Kd.C_drewN ?_ _) | (with_reducible refine Kd.C_drew ?_))); (case side2 => exact HC0.out); rintro e w6 ⟨rfl, hb⟩; refine ⟨_, rfl, ?_⟩; have n0_ := Aside0.mk (below_step (by repeat (first | (with_reducible first | exact HB.out | apply below_alloc | apply pw_below_drewN | apply below_drew1) | exact HB.out)) hb); clear HB; have HB := n0_; clear n0_; (try clear hb); (try clear hb2); (try clear hk); (try clear hi)))
    (try simp only [Act.put, List.setIfInBounds_toArray, List.set_cons_zero, List.set_cons_succ])
    go_cut [16] (fun v16 wc => ∃ (kq : Nat) (x16_4 : Bool), v16 = .bool x16_4 ∧ Aside0 (laws_FnTextEscape.j0 kq l0 a1 x16_4 = some r) ∧ Aside0 (kq ≤ k) ∧ Aside0 (Below w.heap.size w wc))
    case first =>
      have H := HC5.out
      clear HC5
      replace H := Option.bind_eq_some_iff.mp H
      obtain ⟨t134, A70, H⟩ := H
      replace H : (if t134 = true then ((spec_TxAttribute.f a1).bind fun t135 => (laws_FnTextEscape.j0 k l0 a1 (!t135))) else (laws_FnTextEscape.j0 k l0 a1 true)) = some r := H
      have A7 := Aside0.mk A70
      clear A70
      by_cases c8 : t134 = true
      · subst c8
        have H1 : ((spec_TxAttribute.f a1).bind fun t135 => (laws_FnTextEscape.j0 k l0 a1 (!t135))) = some r := by rw [if_pos rfl] at H; exact H
        clear H
        have H := H1
        clear H1
        replace H := Option.bind_eq_some_iff.mp H
        obtain ⟨t135, A90, H⟩ := H
        replace H : (laws_FnTextEscape.j0 k l0 a1 (!t135)) = some r := H
        have A9 := Aside0.mk A90
        clear A90
        have H' := Aside0.mk H
        clear H
        go_wp2_with (first | ((with_reducible refine gate_callee (f := 7) rfl ?_); refine goesL_ (some 10) rfl rfl Tryd.func7 (by kernel_rfl) rfl #[.slice A0 l0.length c0] rfl (by (try simp only [List.map_toArray, List.map_cons, List.map_nil]); first | done | rfl | (simp only [List.length_drop, List.length_take]; rfl)) ?_; (with_reducible refine (spec_TxTurns.calls k _ _ l0 true _ ?side1 ?side2 A7.out).mono ?_); (case side1 => repeat (first | exact (Kd.C_below HR0.out HB.out) | (with_reducible refine Kd.C_alloc ?_ _) | (with_reducible refine Kd.C_drewN ?_ _) | (with_reducible refine Kd.C_drew ?_))); (case side2 => exact HC0.out); rintro e w10 ⟨rfl, hb⟩; refine ⟨_, rfl, ?_⟩; have n0_ := Aside0.mk (below_step (by repeat (first | (with_reducible first | exact HB.out | apply below_alloc | apply pw_below_drewN | apply below_drew1) | exact HB.out)) hb); clear HB; have HB := n0_; clear n0_; (try clear hb); (try clear hb2); (try clear hk); (try clear hi)) | (go_at_call 8; (with_reducible refine (spec_TxAttribute.calls a1 t135 _ A9.out).mono ?_); rintro e w' ⟨rfl, ⟨nd, rfl⟩⟩))
        go_meet
        case rel => exact ⟨_, (!t135), (by first | rfl | (simp; done) | (simp [*]; done)), H', ⟨by first | omega | exact Nat.le_refl _⟩, ⟨by repeat (first | (with_reducible first | exact HB.out | apply below_alloc | apply pw_below_drewN | apply below_drew1) | exact HB.out)⟩⟩
      · replace c8 := Bool.eq_false_iff.mpr c8
        subst c8
        have H1 : (laws_FnTextEscape.j0 k l0 a1 true) = some r := by rw [if_neg (show ¬ (false = true) by decide)] at H; exact H
        clear H
        have H := H1
        clear H1
        have H' := Aside0.mk H
        clear H
        go_wp2_with (first | ((with_reducible refine gate_callee (f := 7) rfl ?_); refine goesL_ (some 10) rfl rfl Tryd.func7 (by kernel_rfl) rfl #[.slice A0 l0.length c0] rfl (by (try simp only [List.map_toArray, List.map_cons, List.map_nil]); first | done | rfl | (simp only [List.length_drop, List.length_take]; rfl)) ?_; (with_reducible refine (spec_TxTurns.calls k _ _ l0 false _ ?side1 ?side2 A7.out).mono ?_); (case side1 => repeat (first | exact (Kd.C_below HR0.out HB.out) | (with_reducible refine Kd.C_alloc ?_ _) | (with_reducible refine Kd.C_drewN ?_ _) | (with_reducible refine Kd.C_drew ?_))); (case side2 => exact HC0.out); rintro e w11 ⟨rfl, hb⟩; refine ⟨_, rfl, ?_⟩; have n0_ := Aside0.mk (below_step (by repeat (first | (with_reducible first | exact HB.out | apply below_alloc | apply pw_below_drewN | apply below_drew1) | exact HB.out)) hb); clear HB; have HB := n0_; clear n0_; (try clear hb); (try clear hb2); (try clear hk); (try clear hi)))
        go_meet
        case rel => exact ⟨_, (true), (by first | rfl | (simp; done) | (simp [*]; done)), H', ⟨by first | omega | exact Nat.le_refl _⟩, ⟨by repeat (first | (with_reducible first | exact HB.out | apply below_alloc | apply pw_below_drewN | apply below_drew1) | exact HB.out)⟩⟩
    case rest =>
      clear HC5
      try clear p2
      try clear c3
      try clear c4
      try clear c6
      try clear c7
      try clear c8
      obtain ⟨kq, x16_4, rfl, HA, HJ4, HB⟩ := hcut
      cases kq with
      | zero => exact absurd HA.out (by simp [laws_FnTextEscape.j0])
      | succ kj4 =>
        have H := HA.out
        clear HA
        simp only [laws_FnTextEscape.j0] at H
        by_cases c12 : x16_4 = true
        · subst c12
          have H1 : (some true) = some r := by rw [if_pos rfl] at H; exact H
          clear H
          have H := H1
          clear H1
          obtain rfl := Option.some.inj H
          go_wp2
          go_ret
          exact ⟨by first | rfl | (simp [errW_none, errW_some] <;> rfl) | (simp [*, errW_none, errW_some] <;> rfl), by repeat (first | (with_reducible first | exact HB.out | apply below_alloc | apply pw_below_drewN | apply below_drew1) | exact HB.out)⟩
        · replace c12 := Bool.eq_false_iff.mpr c12
          subst c12
          have H1 : ((spec_TxSequence.f kj4 (([a1] : List Int))).bind fun t139 => ((spec_TxColored.f kj4 l0).bind fun t140 => ((impl_TextEscape.f kj4 t140 t139).bind fun t141 => ((spec_TxEscaped.f kj4 l0 t139).bind fun t142 => (some (t141.toList == t142.toList)))))) = some r := by rw [if_neg (show ¬ (false = true) by decide)] at H; exact H
          clear H
          have H := H1
          clear H1
          obtain ⟨y136, hy136⟩ : ∃ y_ : List Int, y_ = (([a1] : List Int)) := ⟨_, rfl⟩
          replace H : ((spec_TxSequence.f kj4 y136).bind fun t139 => ((spec_TxColored.f kj4 l0).bind fun t140 => ((impl_TextEscape.f kj4 t140 t139).bind fun t141 => ((spec_TxEscaped.f kj4 l0 t139).bind fun t142 => (some (t141.toList == t142.toList)))))) = some r := by first | (rw [hy136]; with_reducible exact H) | (have H2_ := (Option.bind_some _ _).symm.trans H; rw [hy136]; with_reducible exact H2_) | (have H2_ := (Option.bind_some _ _).symm.trans H; with_reducible exact H2_) | with_reducible exact H | (rw [hy136]; exact H) | exact H
          have Ny136 := Aside0.mk hy136
          clear hy136
          replace H := Option.bind_eq_some_iff.mp H
          obtain ⟨t139, A130, H⟩ := H
          replace H : ((spec_TxColored.f kj4 l0).bind fun t140 => ((impl_TextEscape.f kj4 t140 t139).bind fun t141 => ((spec_TxEscaped.f kj4 l0 t139).bind fun t142 => (some (t141.toList == t142.toList))))) = some r := H
          have A13 := Aside0.mk A130
          clear A130
          replace H := Option.bind_eq_some_iff.mp H
          obtain ⟨t140, A140, H⟩ := H
          replace H : ((impl_TextEscape.f kj4 t140 t139).bind fun t141 => ((spec_TxEscaped.f kj4 l0 t139).bind fun t142 => (some (t141.toList == t142.toList)))) = some r := H
          have A14 := Aside0.mk A140
          clear A140
          replace H := Option.bind_eq_some_iff.mp H
          obtain ⟨t141, A150, H⟩ := H
          replace H : ((spec_TxEscaped.f kj4 l0 t139).bind fun t142 => (some (t141.toList == t142.toList))) = some r := H
          have A15 := Aside0.mk A150
          clear A150
          replace H := Option.bind_eq_some_iff.mp H
          obtain ⟨t142, A160, H⟩ := H
          replace H : (some (t141.toList == t142.toList)) = some r := H
          have A16 := Aside0.mk A160
          clear A160
          obtain rfl := Option.some.inj H
          go_wp2_with (first | ((with_reducible refine gate_dst (N := 18) rfl ?_); refine Kd.R_lit (Kd.int .i64) _ 3 ?hg (N := 18) ?hd (xs := ([a1] : List Int)) (inner := [.int .i64 a1]) (ok := fun _ => True) (okp := fun _ => True) ?hr ?hp (fun _ hk => hk) trivial (Below.refl _ _) (Nat.le_refl _) (by simp) ?_; (case hd => rfl); (case hg => rfl); (case hr => first | (go_simp; done) | (go_simp; rfl)); (case hp => exact (Reps.one (show Kd.M (Kd.int .i64) _ _ _ a1 [.int .i64 a1] from rfl) (Reps.none _ _))); intro v137 w17 ho18 hb hg_ hnew_; clear hg_ hnew_; (first | rw [← Ny136.out] at ho18 | (simp only [Int.reduceToNat] at ho18; rw [← Ny136.out] at ho18)); have n0_ := Aside0.mk (Kd.R_lower ho18 (below_size (by repeat (first | (with_reducible first | exact HB.out | apply below_alloc | apply pw_below_drewN | apply below_drew1) | exact HB.out)))); have n1_ := Aside0.mk (below_step (by repeat (first | (with_reducible first | exact HB.out | apply below_alloc | apply pw_below_drewN | apply below_drew1) | exact HB.out)) hb); clear HB; have HO138 := n0_; have HB := n1_; clear n0_ n1_; clear hb ho18; obtain ⟨Ao19, co19, eo19⟩ := Kd.R_slice HO138.out; subst eo19) | ((with_reducible refine gate_callee (f := 9) rfl ?_); refine goesL_ (some 19) rfl rfl Tryd.func9 (by kernel_rfl) rfl #[.slice Ao19 y136.length co19] rfl (by (try simp only [List.map_toArray, List.map_cons, List.map_nil]); first | done | rfl | (simp only [List.length_drop, List.length_take]; rfl)) ?_; (with_reducible refine (spec_TxSequence.calls kj4 _ _ y136 t139 _ ?side1 ?side2 ?side3 A13.out).mono ?_); (case side1 => exact LaidW.on hT (by repeat (first | (with_reducible first | exact HB.out | apply below_alloc | apply pw_below_drewN | apply below_drew1) | exact HB.out))); (case side2 => repeat (first | exact (Kd.R_reads' HO138.out).2.2 | (with_reducible refine Kd.C_alloc ?_ _) | (with_reducible refine Kd.C_drewN ?_ _) | (with_reducible refine Kd.C_drew ?_))); (case side3 => exact (Kd.R_reads' HO138.out).2.1); rintro e w20 ⟨rfl, hb⟩; refine ⟨_, rfl, ?_⟩; have n0_ := Aside0.mk (Kd.R_below (by (with_reducible repeat (first | apply Kd.R_alloc | apply Kd.R_drewN | apply Kd.R_drew)); exact HO138.out) hb); have n1_ := Aside0.mk (below_step (by repeat (first | (with_reducible first | exact HB.out | apply below_alloc | apply pw_below_drewN | apply below_drew1) | exact HB.out)) hb); clear HO138; clear HB; have HO138 := n0_; have HB := n1_; clear n0_ n1_; (try clear hb); (try clear hb2); (try clear hk); (try clear hi)) | ((with_reducible refine gate_callee (f := 11) rfl ?_); refine goesL_ (some 21) rfl rfl Tryd.func11 (by kernel_rfl) rfl #[.slice A0 l0.length c0] rfl (by (try simp only [List.map_toArray, List.map_cons, List.map_nil]); first | done | rfl | (simp only [List.length_drop, List.length_take]; rfl)) ?_; (with_reducible refine (spec_TxColored.calls kj4 _ _ l0 t140 _ ?side1 ?side2 ?side3 A14.out).mono ?_); (case side1 => exact LaidW.on hT (by repeat (first | (with_reducible first | exact HB.out | apply below_alloc | apply pw_below_drewN | apply below_drew1) | exact HB.out))); (case side2 => repeat (first | exact (Kd.C_below HR0.out HB.out) | (with_reducible refine Kd.C_alloc ?_ _) | (with_reducible refine Kd.C_drewN ?_ _) | (with_reducible refine Kd.C_drew ?_))); (case side3 => exact HC0.out); rintro e w21 ⟨rfl, hb⟩; refine ⟨_, rfl, ?_⟩; have n0_ := Aside0.mk (Kd.R_below (by (with_reducible repeat (first | apply Kd.R_alloc | apply Kd.R_drewN | apply Kd.R_drew)); exact HO138.out) hb); have n1_ := Aside0.mk (below_step (by repeat (first | (with_reducible first | exact HB.out | apply below_alloc | apply pw_below_drewN | apply below_drew1) | exact HB.out)) hb); clear HO138; clear HB; have HO138 := n0_; have HB := n1_; clear n0_ n1_; (try clear hb); (try clear hb2); (try clear hk); (try clear hi)) | ((with_reducible refine gate_callee (f := 10) rfl ?_); refine goesL_ (some 23) rfl rfl Tryd.func10 (by kernel_rfl) rfl #[.string t140, .string t139] rfl (by (try simp only [List.map_toArray, List.map_cons, List.map_nil]); first | done | rfl | (simp only [List.length_drop, List.length_take]; rfl)) ?_; (with_reducible refine (impl_TextEscape.calls kj4 t140 t139 t141 _ A15.out).mono ?_); rintro e w22 ⟨rfl, hb⟩; refine ⟨_, rfl, ?_⟩; have n0_ := Aside0.mk (Kd.R_below (by (with_reducible repeat (first | apply Kd.R_alloc | apply Kd.R_drewN | apply Kd.R_drew)); exact HO138.out) hb); have n1_ := Aside0.mk (below_step (by repeat (first | (with_reducible first | exact HB.out | apply below_alloc | apply pw_below_drewN | apply below_drew1) | exact HB.out)) hb); clear HO138; clear HB; have HO138 := n0_; have HB := n1_; clear n0_ n1_; (try clear hb); (try clear hb2); (try clear hk); (try clear hi)) | ((with_reducible refine gate_callee (f := 12) rfl ?_); refine goesL_ (some 26) rfl rfl Tryd.func12 (by kernel_rfl) rfl #[.slice A0 l0.length c0, .string t139] rfl (by (try simp only [List.map_toArray, List.map_cons, List.map_nil]); first | done | rfl | (simp only [List.length_drop, List.length_take]; rfl)) ?_; (with_reducible refine (spec_TxEscaped.calls kj4 _ _ l0 t139 t142 _ ?side1 ?side2 ?side3 A16.out).mono ?_); (case side1 => exact LaidW.on hT (by repeat (first | (with_reducible first | exact HB.out | apply below_alloc | apply pw_below_drewN | apply below_drew1) | exact HB.out))); (case side2 => repeat (first | exact (Kd.C_below HR0.out HB.out) | (with_reducible refine Kd.C_alloc ?_ _) | (with_reducible refine Kd.C_drewN ?_ _) | (with_reducible refine Kd.C_drew ?_))); (case side3 => exact HC0.out); rintro e w23 ⟨rfl, hb⟩; refine ⟨_, rfl, ?_⟩; have n0_ := Aside0.mk (Kd.R_below (by (with_reducible repeat (first | apply Kd.R_alloc | apply Kd.R_drewN | apply Kd.R_drew)); exact HO138.out) hb); have n1_ := Aside0.mk (below_step (by repeat (first | (with_reducible first | exact HB.out | apply below_alloc | apply pw_below_drewN | apply below_drew1) | exact HB.out)) hb); clear HO138; clear HB; have HO138 := n0_; have HB := n1_; clear n0_ n1_; (try clear hb); (try clear hb2); (try clear hk); (try clear hi)))
          go_ret
          exact ⟨by first | rfl | (simp [errW_none, errW_some] <;> rfl) | (simp [*, errW_none, errW_some] <;> rfl), by repeat (first | (with_reducible first | exact HB.out | apply below_alloc | apply pw_below_drewN | apply below_drew1) | exact HB.out)⟩
  · replace c4 := Bool.eq_false_iff.mpr c4
    subst c4
    have H1 : (some true) = some r := by rw [if_neg (show ¬ (false = true) by decide)] at H; exact H
    clear H
    have H := H1
    clear H1
    obtain rfl := Option.some.inj H
    go_enter Tryd.func3, Tryd.ntmps3
    go_wp2_with (first | ((with_reducible refine gate_callee (f := 6) rfl ?_); refine goesL_ (some 7) rfl rfl Tryd.func6 (by kernel_rfl) rfl #[.slice A0 l0.length c0] rfl (by (try simp only [List.map_toArray, List.map_cons, List.map_nil]); first | done | rfl | (simp only [List.length_drop, List.length_take]; rfl)) ?_; (with_reducible refine (laws_zzFits17.calls k _ _ l0 false _ ?side1 ?side2 A3.out).mono ?_); (case side1 => repeat (first | exact HR0.out | (with_reducible refine Kd.C_alloc ?_ _) | (with_reducible refine Kd.C_drewN ?_ _) | (with_reducible refine Kd.C_drew ?_))); (case side2 => exact HC0.out); rintro e w24 ⟨rfl, hb⟩; refine ⟨_, rfl, ?_⟩; have n0_ := Aside0.mk (below_step (by repeat (first | (with_reducible first | exact HB.out | apply below_alloc | apply pw_below_drewN | apply below_drew1) | exact HB.out)) hb); clear HB; have HB := n0_; clear n0_; (try clear hb); (try clear hb2); (try clear hk); (try clear hi)))
    go_ret
    exact ⟨by first | rfl | (simp [errW_none, errW_some] <;> rfl) | (simp [*, errW_none, errW_some] <;> rfl), by repeat (first | (with_reducible first | exact HB.out | apply below_alloc | apply pw_below_drewN | apply below_drew1) | exact HB.out)⟩

def laws_FnTextEscape.Pure : Prop := ∀ (l0 : List (S43)) (a1 : Int), (l0.length * 24 ≤ 140737488351232 ∧ l0.length ≤ maxLen ∧ ∀ yl0 ∈ l0, ((Lit.int .i64 yl0.f0).wf = true ∧ (yl0.f1.size ≤ 140737488351232))) → (Lit.int .i64 a1).wf = true → ∃ k, laws_FnTextEscape.f k l0 a1 = some true

end Go.Proofs.YthepbgakfkiliaaRDoor.PFnTextEscape
