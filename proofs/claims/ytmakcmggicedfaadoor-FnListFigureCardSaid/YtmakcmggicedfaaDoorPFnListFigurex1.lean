-- Written by hprint.py, a program of this session
import Derived.Test.YtmakcmggicedfaaDoorPFnListFigurex0
namespace Go.Proofs.YtmakcmggicedfaaDoor.PFnListFigure
open Go.RowKit Go.Proofs.YtmakcmggicedfaaDoor.Hand Go.Proofs.YtmakcmggicedfaaDoorW.PrintWords Go.Proofs.YtmakcmggicedfaaDoorW.PrintLast Go.Proofs.YtmakcmggicedfaaDoorW.PrintMore
attribute [local go_sem] max2_int min2_int max_two min_two max_three min_three max_four min_four   -- for this text's walks alone
set_option linter.unusedVariables false
set_option linter.unusedSimpArgs false

/-! ### spec_TxLines: function 10 -/
def spec_TxLines.l0 : Nat → List ByteArray → Int → ByteArray → Option (List ByteArray)
  | 0, _, _, _ => none
  | k + 1, x3, x105000, x105001 => if It.itK x105000 < (x105001.size : Int) then (if (It.itR x105001 x105000) = 10 then (if x3.length < 8796093022208 then (spec_TxLines.l0 k (x3 ++ [(⟨#[]⟩ : ByteArray)]) (It.itP x105001 x105000) x105001) else (none)) else (if 0 ≤ (wrap64 ((x3.length : Int) - 1)) then (if (wrap64 ((x3.length : Int) - 1)) < (x3.length : Int) then (if (rdOf ByteArray.empty x3 (wrap64 ((x3.length : Int) - 1))).size + (Go.Utf8.encode (It.itR x105001 x105000)).size ≤ 9223372036854775807 then (spec_TxLines.l0 k (x3.set ((wrap64 ((x3.length : Int) - 1)) : Int).toNat ((rdOf ByteArray.empty x3 (wrap64 ((x3.length : Int) - 1))) ++ (Go.Utf8.encode (It.itR x105001 x105000)))) (It.itP x105001 x105000) x105001) else (none)) else (none)) else (none))) else (some x3)
def spec_TxLines.f (k : Nat) (a0 : ByteArray) : Option (List ByteArray) := spec_TxLines.l0 k (([(⟨#[]⟩ : ByteArray)] : List ByteArray)) 0 a0
theorem spec_TxLines.mono_l : ∀ k, (∀ y0 y1 y2, LeO (spec_TxLines.l0 k y0 y1 y2) (spec_TxLines.l0 (k + 1) y0 y1 y2))
  | 0 => fun _ _ _ r h => by simp [spec_TxLines.l0] at h
  | k + 1 => by
    have ih0 := spec_TxLines.mono_l k
    · intro y0 y1 y2
      unfold spec_TxLines.l0
      repeat' first
      | (with_reducible exact ih0 _ _ _)
      | (with_reducible exact LeO.refl _)
      | (with_reducible exact LeO.none _)
      | (with_reducible refine LeO.ite ?_ ?_)
      | (with_reducible refine LeO.bind ?_ (fun _ => ?_))
      | exact ih0 _ _ _
      | exact LeO.none _
      | refine LeO.ite ?_ ?_
      | refine LeO.bind ?_ (fun _ => ?_)
theorem spec_TxLines.mono : ∀ a0 k, LeO (spec_TxLines.f k a0) (spec_TxLines.f (k + 1) a0) := by
  intro a0 k
  have ih0 := spec_TxLines.mono_l k
  unfold spec_TxLines.f
  repeat' first
      | (with_reducible exact ih0 _ _ _)
      | (with_reducible exact LeO.refl _)
      | (with_reducible exact LeO.none _)
      | (with_reducible refine LeO.ite ?_ ?_)
      | (with_reducible refine LeO.bind ?_ (fun _ => ?_))
      | exact ih0 _ _ _
      | exact LeO.none _
      | refine LeO.ite ?_ ?_
      | refine LeO.bind ?_ (fun _ => ?_)
set_option maxHeartbeats 8000000 in
set_option maxRecDepth 100000 in
theorem spec_TxLines.calls (k : Nat) (a0 : ByteArray) (r : List ByteArray) (w : World) (h : spec_TxLines.f k a0 = some r) :
    Calls Tryd.prog 10 #[.string a0] w fun e w' => ∃ v0_ : Value, e = .returned (v0_) ∧ Kd.R Kd.string 9 w' w.heap.size (fun _ => True) v0_ r ∧ Below w.heap.size w w' := by
  have HB := Aside0.mk (Below.refl w.heap.size w)
  have H : (spec_TxLines.l0 k (([(⟨#[]⟩ : ByteArray)] : List ByteArray)) 0 a0) = some r := h
  clear h
  obtain ⟨y101, hy101⟩ : ∃ y_ : List ByteArray, y_ = (([(⟨#[]⟩ : ByteArray)] : List ByteArray)) := ⟨_, rfl⟩
  replace H : (spec_TxLines.l0 k y101 0 a0) = some r := by first | (rw [hy101]; with_reducible exact H) | (have H2_ := (Option.bind_some _ _).symm.trans H; rw [hy101]; with_reducible exact H2_) | (have H2_ := (Option.bind_some _ _).symm.trans H; with_reducible exact H2_) | with_reducible exact H | (rw [hy101]; exact H) | exact H
  have Ny101 := Aside0.mk hy101
  clear hy101
  have H' := Aside0.mk H
  clear H
  go_enter Tryd.func10, Tryd.ntmps10
  go_wp2_with (first | ((with_reducible refine gate_dst (N := 6) rfl ?_); refine Kd.R_lit Kd.string _ 9 ?hg (N := 6) ?hd (xs := ([(⟨#[]⟩ : ByteArray)] : List ByteArray)) (inner := [.string (⟨#[]⟩ : ByteArray)]) (ok := fun _ => True) (okp := fun _ => True) ?hr ?hp (fun _ hk => hk) trivial (Below.refl _ _) (Nat.le_refl _) (by simp) ?_; (case hd => rfl); (case hg => rfl); (case hr => first | (go_simp; done) | (go_simp; rfl)); (case hp => exact (Reps.one (show Kd.M Kd.string _ _ _ (⟨#[]⟩ : ByteArray) [.string (⟨#[]⟩ : ByteArray)] from rfl) (Reps.none _ _))); intro v102 w2 ho3 hb hg_ hnew_; clear hg_ hnew_; (first | rw [← Ny101.out] at ho3 | (simp only [Int.reduceToNat] at ho3; rw [← Ny101.out] at ho3)); have n0_ := Aside0.mk (Kd.R_lower ho3 (below_size (by repeat (first | (with_reducible first | exact HB.out | apply below_alloc | apply pw_below_drewN | apply below_drew1) | exact HB.out)))); have n1_ := Aside0.mk (below_step (by repeat (first | (with_reducible first | exact HB.out | apply below_alloc | apply pw_below_drewN | apply below_drew1) | exact HB.out)) hb); clear HB; have HO103 := n0_; have HB := n1_; clear n0_ n1_; clear hb ho3) | ((with_reducible refine gate_dst (N := 8) rfl ?_); refine It.range_event ?hg (N := 8) ?hd (s := a0) rfl Tryd.underlying9 ?hr ?_; (case hd => rfl); (case hg => rfl); (case hr => first | rfl | (go_simp; done) | (go_simp; rfl)); intro gb104 hg w4 hbox hb; have n0_ := Aside0.mk (Kd.R_below (by (with_reducible repeat (first | apply Kd.R_alloc | apply Kd.R_drewN | apply Kd.R_drew)); exact HO103.out) hb); have n1_ := Aside0.mk (below_step (by repeat (first | (with_reducible first | exact HB.out | apply below_alloc | apply pw_below_drewN | apply below_drew1) | exact HB.out)) hb); have n2_ := Aside0.mk (hbox); have n3_ := Aside0.mk ((by rw [hg]; exact (below_size (by repeat (first | (with_reducible first | exact HB.out | apply below_alloc | apply pw_below_drewN | apply below_drew1) | exact HB.out))) : w.heap.size ≤ gb104)); have n4_ := Aside0.mk ((by rw [hg]; exact (below_size (by repeat (first | (with_reducible first | exact HB.out | apply below_alloc | apply pw_below_drewN | apply below_drew1) | exact HB.out))) : w.heap.size ≤ gb104)); clear HO103; clear HB; have HO103 := n0_; have HB := n1_; have BK104 := n2_; have GW104 := n3_; have GE104 := n4_; clear n0_ n1_ n2_ n3_ n4_; clear hb hbox hg))
  (try simp only [Act.put, List.setIfInBounds_toArray, List.set_cons_zero, List.set_cons_succ])
  go_loopg [3] k (fun kq v3 w' => ∃ (x3_1 : List ByteArray) (x105000_1 : Int), Aside0 (spec_TxLines.l0 kq x3_1 x105000_1 a0 = some r) ∧ Aside0 (kq ≤ k) ∧ Aside0 (Kd.R Kd.string 9 w' w.heap.size (fun _ => True) v3 x3_1) ∧ Aside0 (w'.heap[gb104]? = some (.stringIter a0 (x105000_1 : Int).toNat)) ∧ Aside0 (Below w.heap.size w w'))
  case atStart => exact ⟨(y101), (0), H', ⟨Nat.le_refl _⟩, ⟨by (with_reducible repeat (first | apply Kd.R_alloc | apply Kd.R_drewN | apply Kd.R_drew)); exact HO103.out⟩, ⟨by (with_reducible repeat (first | refine blk_drewN ?_ _ | refine blk_drew ?_ | refine blk_alloc ?_ _)); exact BK104.out⟩, ⟨by repeat (first | (with_reducible first | exact HB.out | apply below_alloc | apply pw_below_drewN | apply below_drew1 | refine below_set ?_ GE104.out) | exact HB.out)⟩⟩
  case round =>
    clear H'
    try clear c1
    try clear p2
    obtain ⟨x3_1, x105000_1, HA, HK1, HO_3, BK104, HB⟩ := hrel
    cases gk with
    | zero => exact absurd HA.out (by simp [spec_TxLines.l0])
    | succ k1 =>
      have H := HA.out
      clear HA
      simp only [spec_TxLines.l0] at H
      by_cases c5 : It.itK x105000_1 < (a0.size : Int)
      · rw [if_pos c5] at H
        have c5b0 : decide (It.itK x105000_1 < (a0.size : Int)) = true := decide_eq_true c5
        clear c5
        by_cases c6 : (It.itR a0 x105000_1) = 10
        · rw [if_pos c6] at H
          have c6b0 : ((It.itR a0 x105000_1) == 10) = true := beq_iff_eq.mpr c6
          have c6b1 : ((It.itR a0 x105000_1) != 10) = false := bne_eq_false_iff_eq.mpr c6
          clear c6
          by_cases c7 : x3_1.length < 8796093022208
          · rw [if_pos c7] at H
            have LMc7 := Aside0.mk c7
            clear c7
            obtain ⟨y105, hy105⟩ : ∃ y_ : List ByteArray, y_ = (x3_1 ++ [(⟨#[]⟩ : ByteArray)]) := ⟨_, rfl⟩
            replace H : (spec_TxLines.l0 k1 y105 (It.itP a0 x105000_1) a0) = some r := by first | (rw [hy105]; with_reducible exact H) | (have H2_ := (Option.bind_some _ _).symm.trans H; rw [hy105]; with_reducible exact H2_) | (have H2_ := (Option.bind_some _ _).symm.trans H; with_reducible exact H2_) | with_reducible exact H | (rw [hy105]; exact H) | exact H
            have Ny105 := Aside0.mk hy105
            clear hy105
            have H' := Aside0.mk H
            clear H
            go_wp2_with (first | ((with_reducible refine gate_dst (N := 9) rfl ?_); refine It.next_yes ?hg (N := 9) ?hd (g := gb104) (s := a0) (pos := x105000_1) rfl ?hr (by (with_reducible repeat (first | refine blk_drewN ?_ _ | refine blk_drew ?_ | refine blk_alloc ?_ _)); exact BK104.out) (of_decide_eq_true (by first | (with_reducible assumption) | assumption)) ?_; (case hd => rfl); (case hg => rfl); (case hr => first | rfl | (go_simp; done) | (go_simp; rfl)); intro w8 hg_ hbox; have n0_ := Aside0.mk (It.R_iter (by (with_reducible repeat (first | apply Kd.R_alloc | apply Kd.R_drewN | apply Kd.R_drew)); exact HO_3.out) (by (with_reducible repeat (first | refine blk_drewN ?_ _ | refine blk_drew ?_ | refine blk_alloc ?_ _)); exact BK104.out) hg_); have n1_ := Aside0.mk (hbox); have n2_ := Aside0.mk (It.below_iter (by repeat (first | (with_reducible first | exact HB.out | apply below_alloc | apply pw_below_drewN | apply below_drew1 | refine below_set ?_ GE104.out) | exact HB.out)) (below_size (by repeat (first | (with_reducible first | exact HB.out | apply below_alloc | apply pw_below_drewN | apply below_drew1 | refine below_set ?_ GE104.out) | exact HB.out))) hg_ GE104.out); clear HO_3; clear BK104; clear HB; have HO_3 := n0_; have BK104 := n1_; have HB := n2_; clear n0_ n1_ n2_; clear hg_ hbox) | ((with_reducible refine gate_builtin (b := .append) (xs := #[.tmp 14, .tmp 15]) rfl ?_); at_builtin; refine Kd.R_append Kd.string (w0 := w) w.heap.size rfl (.tmp 14) (.tmp 15) 27 9 (.string ⟨#[]⟩) 16 rfl Tryd.underlying27 info9 rfl (by decide) (by omega) u3 x3_1 (⟨#[]⟩ : ByteArray) [.string (⟨#[]⟩ : ByteArray)] (fun _ => True) (fun _ => False) rfl rfl ?aP (fun _ hk => hk.elim) ?aF ?aO ?aB ?aS ?aL ?_; (case aP => exact rfl); (case aB => exact (by repeat (first | (with_reducible first | exact HB.out | apply below_alloc | apply pw_below_drewN | apply below_drew1 | refine below_set ?_ GE104.out) | exact HB.out))); (case aF => exact (fun _ _ => trivial)); (case aO => exact (by (with_reducible repeat (first | apply Kd.R_alloc | apply Kd.R_drewN | apply Kd.R_drew)); exact HO_3.out)); (case aS => exact (below_size (by repeat (first | (with_reducible first | exact HB.out | apply below_alloc | apply pw_below_drewN | apply below_drew1 | refine below_set ?_ GE104.out) | exact HB.out)))); (case aL => have := LMc7.out; omega); intro v106 w9 ho hb hg hat; rw [← Ny105.out] at ho; have n0_ := Aside0.mk (blk_grown (g := gb104) (o := .stringIter a0 (It.itP a0 x105000_1 : Int).toNat) (by (with_reducible repeat (first | refine blk_drewN ?_ _ | refine blk_drew ?_ | refine blk_alloc ?_ _)); exact BK104.out) hg (It.R_ne HO_3.out BK104.out)); have n1_ := Aside0.mk (hb); have n2_ := Aside0.mk (ho); clear BK104; clear HB; clear HO_3; have BK104 := n0_; have HB := n1_; have HO107 := n2_; clear n0_ n1_ n2_; clear ho hb hg hat))
            go_roundg k1
            case measure => have := HK1.out; omega
            case rel => exact ⟨(y105), (It.itP a0 x105000_1), H', ⟨by have := HK1.out; omega⟩, ⟨by (with_reducible repeat (first | apply Kd.R_alloc | apply Kd.R_drewN | apply Kd.R_drew)); exact HO107.out⟩, ⟨by (with_reducible repeat (first | refine blk_drewN ?_ _ | refine blk_drew ?_ | refine blk_alloc ?_ _)); exact BK104.out⟩, ⟨by repeat (first | (with_reducible first | exact HB.out | apply below_alloc | apply pw_below_drewN | apply below_drew1 | refine below_set ?_ GE104.out) | exact HB.out)⟩⟩
          · rw [if_neg c7] at H
            exact absurd H (by simp)
        · rw [if_neg c6] at H
          have c6b0 : ((It.itR a0 x105000_1) == 10) = false := beq_eq_false_iff_ne.mpr c6
          have c6b1 : ((It.itR a0 x105000_1) != 10) = true := bne_iff_ne.mpr c6
          obtain ⟨ji10, hji10⟩ : ∃ j_ : Int, (wrap64 ((x3_1.length : Int) - 1)) = j_ := ⟨_, rfl⟩
          replace H : (if 0 ≤ (ji10) then (if (ji10) < (x3_1.length : Int) then (if (rdOf ByteArray.empty x3_1 (ji10)).size + (Go.Utf8.encode (It.itR a0 x105000_1)).size ≤ 9223372036854775807 then (spec_TxLines.l0 k1 (x3_1.set ((ji10) : Int).toNat ((rdOf ByteArray.empty x3_1 (ji10)) ++ (Go.Utf8.encode (It.itR a0 x105000_1)))) (It.itP a0 x105000_1) a0) else (none)) else (none)) else (none)) = some r := by first | (rw [hji10] at H; exact H) | (simp only [hji10] at H ⊢; exact H)
          have hji10w : (IntKind.i64.wrap ((x3_1.length : Int) - 1)) = ji10 := (i64_w _).trans hji10
          by_cases c11 : 0 ≤ (ji10)
          · rw [if_pos c11] at H
            have c11b0 : decide (0 ≤ (ji10)) = true := decide_eq_true c11
            clear c11
            by_cases c12 : (ji10) < (x3_1.length : Int)
            · rw [if_pos c12] at H
              have c12b0 : decide ((ji10) < (x3_1.length : Int)) = true := decide_eq_true c12
              clear c12
              by_cases c13 : (rdOf ByteArray.empty x3_1 (ji10)).size + (Go.Utf8.encode (It.itR a0 x105000_1)).size ≤ 9223372036854775807
              · rw [if_pos c13] at H
                have c13b0 := eq_true c13
                have c13b1 : decide ((rdOf ByteArray.empty x3_1 (ji10)).size + (Go.Utf8.encode (It.itR a0 x105000_1)).size ≤ 9223372036854775807) = true := decide_eq_true c13
                try have c13b2 : (9223372036854775807 < (rdOf ByteArray.empty x3_1 (ji10)).size + (Go.Utf8.encode (It.itR a0 x105000_1)).size) = False := eq_false (Nat.not_lt.2 c13)
                obtain ⟨y109, hy109⟩ : ∃ y_ : List ByteArray, y_ = (x3_1.set ((ji10) : Int).toNat ((rdOf ByteArray.empty x3_1 (ji10)) ++ (Go.Utf8.encode (It.itR a0 x105000_1)))) := ⟨_, rfl⟩
                replace H : (spec_TxLines.l0 k1 y109 (It.itP a0 x105000_1) a0) = some r := by first | (rw [hy109]; with_reducible exact H) | (have H2_ := (Option.bind_some _ _).symm.trans H; rw [hy109]; with_reducible exact H2_) | (have H2_ := (Option.bind_some _ _).symm.trans H; with_reducible exact H2_) | with_reducible exact H | (rw [hy109]; exact H) | exact H
                have Ny109 := Aside0.mk hy109
                clear hy109
                have H' := Aside0.mk H
                clear H
                go_wp2_with (first | ((with_reducible refine gate_dst (N := 9) rfl ?_); refine It.next_yes ?hg (N := 9) ?hd (g := gb104) (s := a0) (pos := x105000_1) rfl ?hr (by (with_reducible repeat (first | refine blk_drewN ?_ _ | refine blk_drew ?_ | refine blk_alloc ?_ _)); exact BK104.out) (of_decide_eq_true (by first | (with_reducible assumption) | assumption)) ?_; (case hd => rfl); (case hg => rfl); (case hr => first | rfl | (go_simp; done) | (go_simp; rfl)); intro w15 hg_ hbox; have n0_ := Aside0.mk (It.R_iter (by (with_reducible repeat (first | apply Kd.R_alloc | apply Kd.R_drewN | apply Kd.R_drew)); exact HO_3.out) (by (with_reducible repeat (first | refine blk_drewN ?_ _ | refine blk_drew ?_ | refine blk_alloc ?_ _)); exact BK104.out) hg_); have n1_ := Aside0.mk (hbox); have n2_ := Aside0.mk (It.below_iter (by repeat (first | (with_reducible first | exact HB.out | apply below_alloc | apply pw_below_drewN | apply below_drew1 | refine below_set ?_ GE104.out) | exact HB.out)) (below_size (by repeat (first | (with_reducible first | exact HB.out | apply below_alloc | apply pw_below_drewN | apply below_drew1 | refine below_set ?_ GE104.out) | exact HB.out))) hg_ GE104.out); clear HO_3; clear BK104; clear HB; have HO_3 := n0_; have BK104 := n1_; have HB := n2_; clear n0_ n1_ n2_; clear hg_ hbox; obtain ⟨Ao16, co16, eo16⟩ := Kd.R_slice HO_3.out; subst eo16; have p108 : 0 ≤ ((ji10) : Int) := of_decide_eq_true (by first | (with_reducible assumption) | assumption); have q108 : (ji10) < (x3_1.length : Int) := of_decide_eq_true (by first | (with_reducible assumption) | assumption); obtain ⟨ad108, e108, hx108_0⟩ := Kd.at_string (Kd.R_reads' HO_3.out).2.2 (ji10) p108 q108; cases e108; (try simp only [Go.IntWalk.toNatUp] at hx108_0); replace p108 := eq_true p108; replace q108 := eq_true q108; have p14 : 0 ≤ ((ji10) : Int) := of_decide_eq_true (by first | (with_reducible assumption) | assumption); have q14 : ((ji10) : Int) < ((x3_1.length : Int) : Int) := of_decide_eq_true (by first | (with_reducible assumption) | assumption); obtain ⟨go14, co14, eo14, gb14, gl14, cl14, HG14⟩ := Kd.R_form HO_3.out (by omega); (first | cases eo14 | (injection eo14 with ea_ en_ ec_; (first | subst ea_ | (injection ea_ with ea_; subst ea_)); subst ec_; clear en_)); have GB14 := Aside0.mk gb14; have GG14 := Aside0.mk HG14; clear gb14 gl14 HG14; (first | simp only [add_plain] at hx108_0 | skip); obtain ⟨hx14_0, hf14_0⟩ := Kd.R_celln (⟨#[]⟩ : ByteArray) HO_3.out ((ji10) : Int) p14 q14; replace p14 := eq_true p14; replace q14 := eq_true q14; obtain ⟨hy17_, hz17_⟩ := Kd.R_celln (⟨#[]⟩ : ByteArray) HO_3.out ((ji10) : Int) (of_decide_eq_true (by first | (with_reducible assumption) | assumption)) (of_decide_eq_true (by first | (with_reducible assumption) | assumption)); (try simp only [Go.IntWalk.toNatUp] at hy17_ hz17_); have HP17 := Kd.R_putg HO_3.out ((ji10) : Int) ((rdOf ByteArray.empty x3_1 (ji10)) ++ (Go.Utf8.encode (It.itR a0 x105000_1)))) | ((with_reducible refine gate_store (t := 9) (p := 26) rfl ?_); refine store_event (t := 9) (p := 26) (v := ?vo_w18) (w1 := (w15.setCell ⟨go14, ((ji10) : Int).toNat, none⟩ (.string ((rdOf ByteArray.empty x3_1 (ji10)) ++ (Go.Utf8.encode (It.itR a0 x105000_1)))))) ?hg ?ho ?hn ?hr ?_; (case ho => rfl); (case hg => rfl); (case hn => rfl); (case hr => first | (go_simp; done) | (go_simp; rfl)); intro w18 hw; have hg : w15.grownBy w18 (some go14) := (by rw [hw]; exact HP17.2); have hp_ : Kd.R Kd.string 9 w18 w.heap.size (fun _ => True) (.slice (some ⟨go14, 0, none⟩) x3_1.length co16) y109 := (by rw [hw, Ny109.out]; exact HP17.1); clear HP17; have n0_ := Aside0.mk (hp_); have n1_ := Aside0.mk (blk_grown (g := gb104) (o := .stringIter a0 (It.itP a0 x105000_1 : Int).toNat) (by (with_reducible repeat (first | refine blk_drewN ?_ _ | refine blk_drew ?_ | refine blk_alloc ?_ _)); exact BK104.out) hg (It.R_ne HO_3.out BK104.out)); have n2_ := Aside0.mk ((by rw [hw]; exact below_set (HB.out) GB14.out : Below w.heap.size w w18)); clear HO_3; clear BK104; clear HB; have HO_3 := n0_; have BK104 := n1_; have HB := n2_; clear n0_ n1_ n2_; clear hg hw hp_))
                go_roundg k1
                case measure => have := HK1.out; omega
                case rel => exact ⟨(y109), (It.itP a0 x105000_1), H', ⟨by have := HK1.out; omega⟩, ⟨by (with_reducible repeat (first | apply Kd.R_alloc | apply Kd.R_drewN | apply Kd.R_drew)); exact HO_3.out⟩, ⟨by (with_reducible repeat (first | refine blk_drewN ?_ _ | refine blk_drew ?_ | refine blk_alloc ?_ _)); exact BK104.out⟩, ⟨by repeat (first | (with_reducible first | exact HB.out | apply below_alloc | apply pw_below_drewN | apply below_drew1 | refine below_set ?_ GE104.out) | exact HB.out)⟩⟩
              · rw [if_neg c13] at H
                exact absurd H (by simp)
            · rw [if_neg c12] at H
              exact absurd H (by simp)
          · rw [if_neg c11] at H
            exact absurd H (by simp)
      · rw [if_neg c5] at H
        have c5b0 : decide (It.itK x105000_1 < (a0.size : Int)) = false := decide_eq_false c5
        clear c5
        obtain rfl := Option.some.inj H
        go_wp2_with (first | ((with_reducible refine gate_dst (N := 9) rfl ?_); refine It.next_no ?hg (N := 9) ?hd (g := gb104) (s := a0) (pos := x105000_1) rfl ?hr (by (with_reducible repeat (first | refine blk_drewN ?_ _ | refine blk_drew ?_ | refine blk_alloc ?_ _)); exact BK104.out) (of_decide_eq_false (by first | (with_reducible assumption) | assumption)) ?_; (case hd => rfl); (case hg => rfl); (case hr => first | rfl | (go_simp; done) | (go_simp; rfl))))
        go_ret
        exact ⟨_, by first | rfl | (simp [errW_none, errW_some] <;> rfl) | (simp [*, errW_none, errW_some] <;> rfl), by (with_reducible repeat (first | apply Kd.R_alloc | apply Kd.R_drewN | apply Kd.R_drew)); exact HO_3.out, by repeat (first | (with_reducible first | exact HB.out | apply below_alloc | apply pw_below_drewN | apply below_drew1 | refine below_set ?_ GE104.out) | exact HB.out)⟩

-- BY HAND: function 11 (impl_ListRender)

/-! ### spec_LsSteps: function 12 -/
mutual
def spec_LsSteps.l0 : Nat → List (S38) → Int → List (S33) → Int → Int → Option ((List (S38)))
  | 0, _, _, _, _, _ => none
  | k + 1, x3, x4, x7, x8, x9 => if x9 < x8 then (if 0 ≤ x9 then (if x9 < (x7.length : Int) then (spec_LsSteps.l1 k x3 x4 x7 x8 x9 ((rd_T33 x7 x9).f0) ((rd_T33 x7 x9).f1)) else (none)) else (none)) else (some x3)
def spec_LsSteps.l1 : Nat → List (S38) → Int → List (S33) → Int → Int → ByteArray → Int → Option ((List (S38)))
  | 0, _, _, _, _, _, _, _ => none
  | k + 1, x3, x4, x7, x8, x9, x112000, x112001 => if x4 < x112001 then (if x3.length < 2932031007402 then (spec_LsSteps.l1 k (x3 ++ [(⟨2, (⟨#[]⟩ : ByteArray), ([] : List ByteArray)⟩ : S38)]) (wrap64 (x4 + 1)) x7 x8 x9 x112000 x112001) else (none)) else (spec_LsSteps.l2 k x3 x4 x7 x8 x9 x112000 x112001)
def spec_LsSteps.l2 : Nat → List (S38) → Int → List (S33) → Int → Int → ByteArray → Int → Option ((List (S38)))
  | 0, _, _, _, _, _, _, _ => none
  | k + 1, x3, x4, x7, x8, x9, x112000, x112001 => if x4 > x112001 then (if x3.length < 2932031007402 then (spec_LsSteps.l2 k (x3 ++ [(⟨3, (⟨#[]⟩ : ByteArray), ([] : List ByteArray)⟩ : S38)]) (wrap64 (x4 - 1)) x7 x8 x9 x112000 x112001) else (none)) else (if x3.length < 2932031007402 then (spec_LsSteps.l0 k (x3 ++ [(⟨0, x112000, ([] : List ByteArray)⟩ : S38)]) x4 x7 x8 (wrap64 (x9 + 1))) else (none))
end
def spec_LsSteps.f (k : Nat) (l0 : List (S33)) : Option ((List (S38))) := spec_LsSteps.l0 k ([] : List (S38)) 0 l0 (l0.length : Int) 0
theorem spec_LsSteps.mono_l : ∀ k, (∀ y0 y1 y2 y3 y4, LeO (spec_LsSteps.l0 k y0 y1 y2 y3 y4) (spec_LsSteps.l0 (k + 1) y0 y1 y2 y3 y4)) ∧ (∀ y0 y1 y2 y3 y4 y5 y6, LeO (spec_LsSteps.l1 k y0 y1 y2 y3 y4 y5 y6) (spec_LsSteps.l1 (k + 1) y0 y1 y2 y3 y4 y5 y6)) ∧ (∀ y0 y1 y2 y3 y4 y5 y6, LeO (spec_LsSteps.l2 k y0 y1 y2 y3 y4 y5 y6) (spec_LsSteps.l2 (k + 1) y0 y1 y2 y3 y4 y5 y6))
  | 0 => ⟨fun _ _ _ _ _ r h => by simp [spec_LsSteps.l0] at h, fun _ _ _ _ _ _ _ r h => by simp [spec_LsSteps.l1] at h, fun _ _ _ _ _ _ _ r h => by simp [spec_LsSteps.l2] at h⟩
  | k + 1 => by
    obtain ⟨ih0, ih1, ih2⟩ := spec_LsSteps.mono_l k
    refine ⟨?_, ?_, ?_⟩
    · intro y0 y1 y2 y3 y4
      unfold spec_LsSteps.l0
      repeat' first
      | (with_reducible exact ih0 _ _ _ _ _)
      | (with_reducible exact ih1 _ _ _ _ _ _ _)
      | (with_reducible exact ih2 _ _ _ _ _ _ _)
      | (with_reducible exact LeO.refl _)
      | (with_reducible exact LeO.none _)
      | (with_reducible refine LeO.ite ?_ ?_)
      | (with_reducible refine LeO.bind ?_ (fun _ => ?_))
      | exact ih0 _ _ _ _ _
      | exact ih1 _ _ _ _ _ _ _
      | exact ih2 _ _ _ _ _ _ _
      | exact LeO.none _
      | refine LeO.ite ?_ ?_
      | refine LeO.bind ?_ (fun _ => ?_)
    · intro y0 y1 y2 y3 y4 y5 y6
      unfold spec_LsSteps.l1
      repeat' first
      | (with_reducible exact ih0 _ _ _ _ _)
      | (with_reducible exact ih1 _ _ _ _ _ _ _)
      | (with_reducible exact ih2 _ _ _ _ _ _ _)
      | (with_reducible exact LeO.refl _)
      | (with_reducible exact LeO.none _)
      | (with_reducible refine LeO.ite ?_ ?_)
      | (with_reducible refine LeO.bind ?_ (fun _ => ?_))
      | exact ih0 _ _ _ _ _
      | exact ih1 _ _ _ _ _ _ _
      | exact ih2 _ _ _ _ _ _ _
      | exact LeO.none _
      | refine LeO.ite ?_ ?_
      | refine LeO.bind ?_ (fun _ => ?_)
    · intro y0 y1 y2 y3 y4 y5 y6
      unfold spec_LsSteps.l2
      repeat' first
      | (with_reducible exact ih0 _ _ _ _ _)
      | (with_reducible exact ih1 _ _ _ _ _ _ _)
      | (with_reducible exact ih2 _ _ _ _ _ _ _)
      | (with_reducible exact LeO.refl _)
      | (with_reducible exact LeO.none _)
      | (with_reducible refine LeO.ite ?_ ?_)
      | (with_reducible refine LeO.bind ?_ (fun _ => ?_))
      | exact ih0 _ _ _ _ _
      | exact ih1 _ _ _ _ _ _ _
      | exact ih2 _ _ _ _ _ _ _
      | exact LeO.none _
      | refine LeO.ite ?_ ?_
      | refine LeO.bind ?_ (fun _ => ?_)
theorem spec_LsSteps.mono : ∀ a0 k, LeO (spec_LsSteps.f k a0) (spec_LsSteps.f (k + 1) a0) := by
  intro a0 k
  obtain ⟨ih0, ih1, ih2⟩ := spec_LsSteps.mono_l k
  unfold spec_LsSteps.f
  repeat' first
      | (with_reducible exact ih0 _ _ _ _ _)
      | (with_reducible exact ih1 _ _ _ _ _ _ _)
      | (with_reducible exact ih2 _ _ _ _ _ _ _)
      | (with_reducible exact LeO.refl _)
      | (with_reducible exact LeO.none _)
      | (with_reducible refine LeO.ite ?_ ?_)
      | (with_reducible refine LeO.bind ?_ (fun _ => ?_))
      | exact ih0 _ _ _ _ _
      | exact ih1 _ _ _ _ _ _ _
      | exact ih2 _ _ _ _ _ _ _
      | exact LeO.none _
      | refine LeO.ite ?_ ?_
      | refine LeO.bind ?_ (fun _ => ?_)
set_option maxHeartbeats 8000000 in
set_option maxRecDepth 100000 in
theorem spec_LsSteps.calls (k : Nat) (A0 : Option Addr) (c0 : Nat) (l0 : List (S33)) (r : List (S38)) (w : World) (hr0 : Kd.C k33 w A0 l0.length l0) (hc0 : l0.length ≤ c0) (h : spec_LsSteps.f k l0 = some r) :
    Calls Tryd.prog 12 #[.slice A0 l0.length c0] w fun e w' => ∃ v0_ : Value, e = .returned (v0_) ∧ Kd.S k38 38 w' w.heap.size (fun _ => True) v0_ r ∧ Below w.heap.size w w' := by
  have hu33 := Tryd.underlying33
  have hu38 := Tryd.underlying38
  have HR0 := Aside0.mk hr0
  have HC0 := Aside0.mk hc0
  clear hr0 hc0
  have HB := Aside0.mk (Below.refl w.heap.size w)
  have H : (spec_LsSteps.l0 k ([] : List (S38)) 0 l0 (l0.length : Int) 0) = some r := h
  clear h
  have H' := Aside0.mk H
  clear H
  go_enter Tryd.func12, Tryd.ntmps12
  go_wp2
  go_loopg [3, 4, 9] k (fun kq v3 v4 v9 w' => ∃ (x3_1 : List (S38)) (x4_1 : Int) (x9_1 : Int), v4 = .int .i64 x4_1 ∧ v9 = .int .i64 x9_1 ∧ Aside0 (spec_LsSteps.l0 kq x3_1 x4_1 l0 (l0.length : Int) x9_1 = some r) ∧ Aside0 (kq ≤ k) ∧ Aside0 (Kd.S k38 38 w' w.heap.size (fun _ => True) v3 x3_1) ∧ Aside0 (Below w.heap.size w w'))
  case atStart => exact ⟨(([] : List (S38))), (0), (0), (by first | rfl | (simp; done) | (simp [*]; done)), (by first | rfl | (simp; done) | (simp [*]; done)), H', ⟨Nat.le_refl _⟩, ⟨by first | exact Kd.S_nil _ _ _ _ _ | exact Kd.N_nil _ _ _ _ _ | exact Kd.V_nil _ _ _ _ _ | exact Kd.Q_nil _ _ _ _ _ | exact Kd.R_nil _ _ _ _ _⟩, ⟨by repeat (first | (with_reducible first | exact HB.out | apply below_alloc | apply pw_below_drewN | apply below_drew1) | exact HB.out)⟩⟩
  case round =>
    clear H'
    try clear c1
    obtain ⟨x3_1, x4_1, x9_1, rfl, rfl, HA, HK1, HO_3, HB⟩ := hrel
    cases gk with
    | zero => exact absurd HA.out (by simp [spec_LsSteps.l0])
    | succ k1 =>
      have H := HA.out
      clear HA
      simp only [spec_LsSteps.l0] at H
      by_cases c2 : x9_1 < (l0.length : Int)
      · rw [if_pos c2] at H
        have c2b0 : decide (x9_1 < (l0.length : Int)) = true := decide_eq_true c2
        clear c2
        by_cases c3 : 0 ≤ x9_1
        · rw [if_pos c3] at H
          have c3b0 : decide (0 ≤ x9_1) = true := decide_eq_true c3
          clear c3
          by_cases c4 : x9_1 < (l0.length : Int)
          · rw [if_pos c4] at H
            have c4b0 : decide (x9_1 < (l0.length : Int)) = true := decide_eq_true c4
            clear c4
            have H' := Aside0.mk H
            clear H
            have p110 : 0 ≤ (x9_1 : Int) := of_decide_eq_true (by first | (with_reducible assumption) | assumption)
            have q110 : x9_1 < (l0.length : Int) := of_decide_eq_true (by first | (with_reducible assumption) | assumption)
            obtain ⟨ad110, e110, hx110_0, hx110_1⟩ := at_T33 HR0.out x9_1 p110 q110
            cases e110
            replace hx110_0 := (HB.out.cell (World.block_lt_of_cell? w _ hx110_0)).trans hx110_0
            replace hx110_1 := (HB.out.cell (World.block_lt_of_cell? w _ hx110_1)).trans hx110_1
            (try simp only [Go.IntWalk.toNatUp] at hx110_0)
            (try simp only [Go.IntWalk.toNatUp] at hx110_1)
            replace p110 := eq_true p110
            replace q110 := eq_true q110
            go_wp2_with (first | ((with_reducible refine gate_dst (N := 6) rfl ?_); refine box_event ?hg (N := 6) ?hd (cs := #[.string (⟨#[]⟩ : ByteArray), .int .i64 0]) (t := 33) ?hr ?_; (case hd => rfl); (case hg => rfl); (case hr => first | (go_simp; done) | (go_simp; rfl)); intro gb111 hg w5 hbox hb; have n0_ := Aside0.mk (Kd.S_below (by (with_reducible repeat (first | apply Kd.S_alloc | apply Kd.S_drewN | apply Kd.S_drew)); exact HO_3.out) hb); have n1_ := Aside0.mk (below_step (by repeat (first | (with_reducible first | exact HB.out | apply below_alloc | apply pw_below_drewN | apply below_drew1) | exact HB.out)) hb); have n2_ := Aside0.mk (hbox); have n3_ := Aside0.mk ((by rw [hg]; exact (below_size (by repeat (first | (with_reducible first | exact HB.out | apply below_alloc | apply pw_below_drewN | apply below_drew1) | exact HB.out))) : w.heap.size ≤ gb111)); have n4_ := Aside0.mk ((by rw [hg]; exact (below_size (by repeat (first | (with_reducible first | exact HB.out | apply below_alloc | apply pw_below_drewN | apply below_drew1) | exact HB.out))) : w.heap.size ≤ gb111)); clear HO_3; clear HB; have HO_3 := n0_; have HB := n1_; have BK111 := n2_; have GW111 := n3_; have GE111 := n4_; clear n0_ n1_ n2_ n3_ n4_; clear hb hbox hg; have hcz6_0 : w5.cell? ⟨gb111, 0, none⟩ = some (.string (⟨#[]⟩ : ByteArray)) := (blk_cell BK111.out 0).trans rfl; have hcz6_1 : w5.cell? ⟨gb111, 1, none⟩ = some (.int .i64 0) := (blk_cell BK111.out 1).trans rfl; have hfz6_0 := blk_frozen BK111.out 0; have hfz6_1 := blk_frozen BK111.out 1))
            go_loopg [3, 4] k1 (fun kq v3 v4 w' => ∃ (x3_2 : List (S38)) (x4_2 : Int), v4 = .int .i64 x4_2 ∧ Aside0 (spec_LsSteps.l1 kq x3_2 x4_2 l0 (l0.length : Int) x9_1 ((rd_T33 l0 x9_1).f0) ((rd_T33 l0 x9_1).f1) = some r) ∧ Aside0 (kq ≤ k1) ∧ Aside0 (Kd.S k38 38 w' w.heap.size (fun _ => True) v3 x3_2) ∧ Aside0 (w'.heap[gb111]? = some (.cells #[.string ((rd_T33 l0 x9_1).f0), .int .i64 ((rd_T33 l0 x9_1).f1)] 33 (0, 0))) ∧ Aside0 (Below w.heap.size w w'))
            case atStart => exact ⟨(x3_1), (x4_1), (by first | rfl | (simp; done) | (simp [*]; done)), H', ⟨Nat.le_refl _⟩, ⟨by (with_reducible repeat (first | apply Kd.S_alloc | apply Kd.S_drewN | apply Kd.S_drew)); exact Kd.S_mono (Kd.S_far (p := ⟨gb111, 1, none⟩) (Kd.S_far (p := ⟨gb111, 0, none⟩) (Kd.S_types HO_3.out BK111.out (by decide)) (fun _ hk => hk.2) (.string ((rd_T33 l0 x9_1).f0))) (fun _ hk => hk.2) (.int .i64 ((rd_T33 l0 x9_1).f1))) (fun _ hk => trivial)⟩, ⟨by (with_reducible repeat (first | refine blk_drewN ?_ _ | refine blk_drew ?_ | refine blk_alloc ?_ _)); refine blk_put (cs := #[.string ((rd_T33 l0 x9_1).f0), .int .i64 0]) ?_ 1 _ rfl; (with_reducible repeat (first | refine blk_drewN ?_ _ | refine blk_drew ?_ | refine blk_alloc ?_ _)); refine blk_put (cs := #[.string (⟨#[]⟩ : ByteArray), .int .i64 0]) ?_ 0 _ rfl; (with_reducible repeat (first | refine blk_drewN ?_ _ | refine blk_drew ?_ | refine blk_alloc ?_ _)); exact BK111.out⟩, ⟨by repeat (first | (with_reducible first | exact HB.out | apply below_alloc | apply pw_below_drewN | apply below_drew1 | refine below_set ?_ GE111.out) | exact HB.out)⟩⟩
            case round =>
              clear H'
              try clear c1
              try clear p1
              try clear q1
              try clear hx1
              try clear c2
              try clear c2b0
              try clear p2
              try clear c3
              try clear c3b0
              try clear c4
              try clear c4b0
              try clear hcz6_0
              try clear hcz6_1
              try clear hfz6_0
              try clear hfz6_1
              try clear hx110_0
              try clear hx110_1
              try clear p110
              try clear q110
              obtain ⟨x3_2, x4_2, rfl, HA, HK2, HO_3, BK111, HB⟩ := hrel
              cases gk with
              | zero => exact absurd HA.out (by simp [spec_LsSteps.l1])
              | succ k2 =>
                have H := HA.out
                clear HA
                simp only [spec_LsSteps.l1] at H
                by_cases c7 : x4_2 < ((rd_T33 l0 x9_1).f1)
                · rw [if_pos c7] at H
                  have c7b0 : decide (x4_2 < ((rd_T33 l0 x9_1).f1)) = true := decide_eq_true c7
                  clear c7
                  by_cases c8 : x3_2.length < 2932031007402
                  · rw [if_pos c8] at H
                    have LMc8 := Aside0.mk c8
                    clear c8
                    obtain ⟨y112, hy112⟩ : ∃ y_ : List (S38), y_ = (x3_2 ++ [(⟨2, (⟨#[]⟩ : ByteArray), ([] : List ByteArray)⟩ : S38)]) := ⟨_, rfl⟩
                    replace H : (spec_LsSteps.l1 k2 y112 (wrap64 (x4_2 + 1)) l0 (l0.length : Int) x9_1 ((rd_T33 l0 x9_1).f0) ((rd_T33 l0 x9_1).f1)) = some r := by first | (rw [hy112]; with_reducible exact H) | (have H2_ := (Option.bind_some _ _).symm.trans H; rw [hy112]; with_reducible exact H2_) | (have H2_ := (Option.bind_some _ _).symm.trans H; with_reducible exact H2_) | with_reducible exact H | (rw [hy112]; exact H) | exact H
                    have Ny112 := Aside0.mk hy112
                    clear hy112
                    have H' := Aside0.mk H
                    clear H
                    have hcz9_0 : wr.cell? ⟨gb111, 0, none⟩ = some (.string ((rd_T33 l0 x9_1).f0)) := (blk_cell BK111.out 0).trans rfl
                    have hcz9_1 : wr.cell? ⟨gb111, 1, none⟩ = some (.int .i64 ((rd_T33 l0 x9_1).f1)) := (blk_cell BK111.out 1).trans rfl
                    have hfz9_0 := blk_frozen BK111.out 0
                    have hfz9_1 := blk_frozen BK111.out 1
                    go_wp2_with (first | ((with_reducible refine gate_builtin (b := .append) (xs := #[.tmp 19, .tmp 21]) rfl ?_); at_builtin; refine Kd.S_append k38 (w0 := w) w.heap.size rfl (.tmp 19) (.tmp 21) 30 38 (.agg #[(.int .i64 0), (.string ⟨#[]⟩), (.slice none 0 0)]) 48 rfl Tryd.underlying30 info38 rfl (by decide) (by omega) u3 x3_2 (⟨2, (⟨#[]⟩ : ByteArray), ([] : List ByteArray)⟩ : S38) [.int .i64 2, .string (⟨#[]⟩ : ByteArray), .slice none 0 0] (fun _ => True) (fun _ => False) rfl rfl ?aP (fun k_ hk_ => hk_.elim) ?aF ?aO ?aB ?aS ?aL ?_; (case aP => exact k38_mkM _ _ _ (⟨2, (⟨#[]⟩ : ByteArray), ([] : List ByteArray)⟩ : S38) (Kd.R_nil _ _ _ _ _)); (case aB => exact (by repeat (first | (with_reducible first | exact HB.out | apply below_alloc | apply pw_below_drewN | apply below_drew1 | refine below_set ?_ GE111.out) | exact HB.out))); (case aF => exact (fun _ _ => trivial)); (case aO => exact (by (with_reducible repeat (first | apply Kd.S_alloc | apply Kd.S_drewN | apply Kd.S_drew)); exact Kd.S_mono HO_3.out (fun k_ hk => ⟨trivial, fun e_ => e_⟩))); (case aS => exact (below_size (by repeat (first | (with_reducible first | exact HB.out | apply below_alloc | apply pw_below_drewN | apply below_drew1 | refine below_set ?_ GE111.out) | exact HB.out)))); (case aL => have := LMc8.out; omega); intro v113 w10 ho hb hg hat; rw [← Ny112.out] at ho; have n0_ := Aside0.mk (blk_grown (g := gb111) (o := .cells #[.string ((rd_T33 l0 x9_1).f0), .int .i64 ((rd_T33 l0 x9_1).f1)] 33 (0, 0)) (by (with_reducible repeat (first | refine blk_drewN ?_ _ | refine blk_drew ?_ | refine blk_alloc ?_ _)); exact BK111.out) hg (Kd.S_ne HO_3.out BK111.out (by decide))); have n1_ := Aside0.mk (hb); have n2_ := Aside0.mk (ho); clear BK111; clear HB; clear HO_3; have BK111 := n0_; have HB := n1_; have HO114 := n2_; clear n0_ n1_ n2_; clear ho hb hg hat))
                    go_roundg k2
                    case measure => have := HK1.out; have := HK2.out; omega
                    case rel => exact ⟨(y112), (wrap64 (x4_2 + 1)), (by first | rfl | (simp; done) | (simp [*]; done)), H', ⟨by have := HK1.out; have := HK2.out; omega⟩, ⟨by (with_reducible repeat (first | apply Kd.S_alloc | apply Kd.S_drewN | apply Kd.S_drew)); exact HO114.out⟩, ⟨by (with_reducible repeat (first | refine blk_drewN ?_ _ | refine blk_drew ?_ | refine blk_alloc ?_ _)); exact BK111.out⟩, ⟨by repeat (first | (with_reducible first | exact HB.out | apply below_alloc | apply pw_below_drewN | apply below_drew1 | refine below_set ?_ GE111.out) | exact HB.out)⟩⟩
                  · rw [if_neg c8] at H
                    exact absurd H (by simp)
                · rw [if_neg c7] at H
                  have c7b0 : decide (x4_2 < ((rd_T33 l0 x9_1).f1)) = false := decide_eq_false c7
                  clear c7
                  have H' := Aside0.mk H
                  clear H
                  have hcz11_0 : wr.cell? ⟨gb111, 0, none⟩ = some (.string ((rd_T33 l0 x9_1).f0)) := (blk_cell BK111.out 0).trans rfl
                  have hcz11_1 : wr.cell? ⟨gb111, 1, none⟩ = some (.int .i64 ((rd_T33 l0 x9_1).f1)) := (blk_cell BK111.out 1).trans rfl
                  have hfz11_0 := blk_frozen BK111.out 0
                  have hfz11_1 := blk_frozen BK111.out 1
                  go_wp2
                  go_loopg [3, 4] k2 (fun kq v3 v4 w' => ∃ (x3_3 : List (S38)) (x4_3 : Int), v4 = .int .i64 x4_3 ∧ Aside0 (spec_LsSteps.l2 kq x3_3 x4_3 l0 (l0.length : Int) x9_1 ((rd_T33 l0 x9_1).f0) ((rd_T33 l0 x9_1).f1) = some r) ∧ Aside0 (kq ≤ k2) ∧ Aside0 (Kd.S k38 38 w' w.heap.size (fun _ => True) v3 x3_3) ∧ Aside0 (w'.heap[gb111]? = some (.cells #[.string ((rd_T33 l0 x9_1).f0), .int .i64 ((rd_T33 l0 x9_1).f1)] 33 (0, 0))) ∧ Aside0 (Below w.heap.size w w'))
                  case atStart => exact ⟨(x3_2), (x4_2), (by first | rfl | (simp; done) | (simp [*]; done)), H', ⟨Nat.le_refl _⟩, ⟨by (with_reducible repeat (first | apply Kd.S_alloc | apply Kd.S_drewN | apply Kd.S_drew)); exact HO_3.out⟩, ⟨by (with_reducible repeat (first | refine blk_drewN ?_ _ | refine blk_drew ?_ | refine blk_alloc ?_ _)); exact BK111.out⟩, ⟨by repeat (first | (with_reducible first | exact HB.out | apply below_alloc | apply pw_below_drewN | apply below_drew1 | refine below_set ?_ GE111.out) | exact HB.out)⟩⟩
                  case round =>
                    clear H'
                    try clear c1
                    try clear p1
                    try clear q1
                    try clear hx1
                    try clear c2
                    try clear c2b0
                    try clear p2
                    try clear c3
                    try clear c3b0
                    try clear c4
                    try clear c4b0
                    try clear p6
                    try clear c7
                    try clear c7b0
                    try clear c8
                    try clear p11
                    try clear q11
                    try clear hx11
                    try clear hcz11_0
                    try clear hcz11_1
                    try clear hcz6_0
                    try clear hcz6_1
                    try clear hcz9_0
                    try clear hcz9_1
                    try clear hfz11_0
                    try clear hfz11_1
                    try clear hfz6_0
                    try clear hfz6_1
                    try clear hfz9_0
                    try clear hfz9_1
                    try clear hx110_0
                    try clear hx110_1
                    try clear p1
                    try clear p110
                    try clear p2
                    try clear q1
                    try clear q110
                    obtain ⟨x3_3, x4_3, rfl, HA, HK3, HO_3, BK111, HB⟩ := hrel
                    cases gk with
                    | zero => exact absurd HA.out (by simp [spec_LsSteps.l2])
                    | succ k3 =>
                      have H := HA.out
                      clear HA
                      simp only [spec_LsSteps.l2] at H
                      by_cases c12 : x4_3 > ((rd_T33 l0 x9_1).f1)
                      · rw [if_pos c12] at H
                        have c12b0 : decide (((rd_T33 l0 x9_1).f1) < x4_3) = true := decide_eq_true c12
                        clear c12
                        by_cases c13 : x3_3.length < 2932031007402
                        · rw [if_pos c13] at H
                          have LMc13 := Aside0.mk c13
                          clear c13
                          obtain ⟨y115, hy115⟩ : ∃ y_ : List (S38), y_ = (x3_3 ++ [(⟨3, (⟨#[]⟩ : ByteArray), ([] : List ByteArray)⟩ : S38)]) := ⟨_, rfl⟩
                          replace H : (spec_LsSteps.l2 k3 y115 (wrap64 (x4_3 - 1)) l0 (l0.length : Int) x9_1 ((rd_T33 l0 x9_1).f0) ((rd_T33 l0 x9_1).f1)) = some r := by first | (rw [hy115]; with_reducible exact H) | (have H2_ := (Option.bind_some _ _).symm.trans H; rw [hy115]; with_reducible exact H2_) | (have H2_ := (Option.bind_some _ _).symm.trans H; with_reducible exact H2_) | with_reducible exact H | (rw [hy115]; exact H) | exact H
                          have Ny115 := Aside0.mk hy115
                          clear hy115
                          have H' := Aside0.mk H
                          clear H
                          have hcz14_0 : wr.cell? ⟨gb111, 0, none⟩ = some (.string ((rd_T33 l0 x9_1).f0)) := (blk_cell BK111.out 0).trans rfl
                          have hcz14_1 : wr.cell? ⟨gb111, 1, none⟩ = some (.int .i64 ((rd_T33 l0 x9_1).f1)) := (blk_cell BK111.out 1).trans rfl
                          have hfz14_0 := blk_frozen BK111.out 0
                          have hfz14_1 := blk_frozen BK111.out 1
                          go_wp2_with (first | ((with_reducible refine gate_builtin (b := .append) (xs := #[.tmp 29, .tmp 31]) rfl ?_); at_builtin; refine Kd.S_append k38 (w0 := w) w.heap.size rfl (.tmp 29) (.tmp 31) 30 38 (.agg #[(.int .i64 0), (.string ⟨#[]⟩), (.slice none 0 0)]) 48 rfl Tryd.underlying30 info38 rfl (by decide) (by omega) u3 x3_3 (⟨3, (⟨#[]⟩ : ByteArray), ([] : List ByteArray)⟩ : S38) [.int .i64 3, .string (⟨#[]⟩ : ByteArray), .slice none 0 0] (fun _ => True) (fun _ => False) rfl rfl ?aP (fun k_ hk_ => hk_.elim) ?aF ?aO ?aB ?aS ?aL ?_; (case aP => exact k38_mkM _ _ _ (⟨3, (⟨#[]⟩ : ByteArray), ([] : List ByteArray)⟩ : S38) (Kd.R_nil _ _ _ _ _)); (case aB => exact (by repeat (first | (with_reducible first | exact HB.out | apply below_alloc | apply pw_below_drewN | apply below_drew1 | refine below_set ?_ GE111.out) | exact HB.out))); (case aF => exact (fun _ _ => trivial)); (case aO => exact (by (with_reducible repeat (first | apply Kd.S_alloc | apply Kd.S_drewN | apply Kd.S_drew)); exact Kd.S_mono HO_3.out (fun k_ hk => ⟨trivial, fun e_ => e_⟩))); (case aS => exact (below_size (by repeat (first | (with_reducible first | exact HB.out | apply below_alloc | apply pw_below_drewN | apply below_drew1 | refine below_set ?_ GE111.out) | exact HB.out)))); (case aL => have := LMc13.out; omega); intro v116 w15 ho hb hg hat; rw [← Ny115.out] at ho; have n0_ := Aside0.mk (blk_grown (g := gb111) (o := .cells #[.string ((rd_T33 l0 x9_1).f0), .int .i64 ((rd_T33 l0 x9_1).f1)] 33 (0, 0)) (by (with_reducible repeat (first | refine blk_drewN ?_ _ | refine blk_drew ?_ | refine blk_alloc ?_ _)); exact BK111.out) hg (Kd.S_ne HO_3.out BK111.out (by decide))); have n1_ := Aside0.mk (hb); have n2_ := Aside0.mk (ho); clear BK111; clear HB; clear HO_3; have BK111 := n0_; have HB := n1_; have HO117 := n2_; clear n0_ n1_ n2_; clear ho hb hg hat))
                          go_roundg k3
                          case measure => have := HK1.out; have := HK2.out; have := HK3.out; omega
                          case rel => exact ⟨(y115), (wrap64 (x4_3 - 1)), (by first | rfl | (simp; done) | (simp [*]; done)), H', ⟨by have := HK1.out; have := HK2.out; have := HK3.out; omega⟩, ⟨by (with_reducible repeat (first | apply Kd.S_alloc | apply Kd.S_drewN | apply Kd.S_drew)); exact HO117.out⟩, ⟨by (with_reducible repeat (first | refine blk_drewN ?_ _ | refine blk_drew ?_ | refine blk_alloc ?_ _)); exact BK111.out⟩, ⟨by repeat (first | (with_reducible first | exact HB.out | apply below_alloc | apply pw_below_drewN | apply below_drew1 | refine below_set ?_ GE111.out) | exact HB.out)⟩⟩
                        · rw [if_neg c13] at H
                          exact absurd H (by simp)
                      · rw [if_neg c12] at H
                        have c12b0 : decide (((rd_T33 l0 x9_1).f1) < x4_3) = false := decide_eq_false c12
                        clear c12
                        by_cases c16 : x3_3.length < 2932031007402
                        · rw [if_pos c16] at H
                          have LMc16 := Aside0.mk c16
                          clear c16
                          obtain ⟨y118, hy118⟩ : ∃ y_ : List (S38), y_ = (x3_3 ++ [(⟨0, ((rd_T33 l0 x9_1).f0), ([] : List ByteArray)⟩ : S38)]) := ⟨_, rfl⟩
                          replace H : (spec_LsSteps.l0 k3 y118 x4_3 l0 (l0.length : Int) (wrap64 (x9_1 + 1))) = some r := by first | (rw [hy118]; with_reducible exact H) | (have H2_ := (Option.bind_some _ _).symm.trans H; rw [hy118]; with_reducible exact H2_) | (have H2_ := (Option.bind_some _ _).symm.trans H; with_reducible exact H2_) | with_reducible exact H | (rw [hy118]; exact H) | exact H
                          have Ny118 := Aside0.mk hy118
                          clear hy118
                          have H' := Aside0.mk H
                          clear H
                          have hcz17_0 : wr.cell? ⟨gb111, 0, none⟩ = some (.string ((rd_T33 l0 x9_1).f0)) := (blk_cell BK111.out 0).trans rfl
                          have hcz17_1 : wr.cell? ⟨gb111, 1, none⟩ = some (.int .i64 ((rd_T33 l0 x9_1).f1)) := (blk_cell BK111.out 1).trans rfl
                          have hfz17_0 := blk_frozen BK111.out 0
                          have hfz17_1 := blk_frozen BK111.out 1
                          go_wp2_with (first | ((with_reducible refine gate_builtin (b := .append) (xs := #[.tmp 33, .tmp 37]) rfl ?_); at_builtin; refine Kd.S_append k38 (w0 := w) w.heap.size rfl (.tmp 33) (.tmp 37) 30 38 (.agg #[(.int .i64 0), (.string ⟨#[]⟩), (.slice none 0 0)]) 48 rfl Tryd.underlying30 info38 rfl (by decide) (by omega) u3 x3_3 (⟨0, ((rd_T33 l0 x9_1).f0), ([] : List ByteArray)⟩ : S38) [.int .i64 0, .string ((rd_T33 l0 x9_1).f0), .slice none 0 0] (fun _ => True) (fun _ => False) rfl rfl ?aP (fun k_ hk_ => hk_.elim) ?aF ?aO ?aB ?aS ?aL ?_; (case aP => exact k38_mkM _ _ _ (⟨0, ((rd_T33 l0 x9_1).f0), ([] : List ByteArray)⟩ : S38) (Kd.R_nil _ _ _ _ _)); (case aB => exact (by repeat (first | (with_reducible first | exact HB.out | apply below_alloc | apply pw_below_drewN | apply below_drew1 | refine below_set ?_ GE111.out) | exact HB.out))); (case aF => exact (fun _ _ => trivial)); (case aO => exact (by (with_reducible repeat (first | apply Kd.S_alloc | apply Kd.S_drewN | apply Kd.S_drew)); exact Kd.S_mono HO_3.out (fun k_ hk => ⟨trivial, fun e_ => e_⟩))); (case aS => exact (below_size (by repeat (first | (with_reducible first | exact HB.out | apply below_alloc | apply pw_below_drewN | apply below_drew1 | refine below_set ?_ GE111.out) | exact HB.out)))); (case aL => have := LMc16.out; omega); intro v119 w18 ho hb hg hat; rw [← Ny118.out] at ho; have n0_ := Aside0.mk (blk_grown (g := gb111) (o := .cells #[.string ((rd_T33 l0 x9_1).f0), .int .i64 ((rd_T33 l0 x9_1).f1)] 33 (0, 0)) (by (with_reducible repeat (first | refine blk_drewN ?_ _ | refine blk_drew ?_ | refine blk_alloc ?_ _)); exact BK111.out) hg (Kd.S_ne HO_3.out BK111.out (by decide))); have n1_ := Aside0.mk (hb); have n2_ := Aside0.mk (ho); clear BK111; clear HB; clear HO_3; have BK111 := n0_; have HB := n1_; have HO120 := n2_; clear n0_ n1_ n2_; clear ho hb hg hat))
                          go_roundg k3
                          case measure => have := HK1.out; have := HK2.out; have := HK3.out; omega
                          case rel => exact ⟨(y118), (x4_3), (wrap64 (x9_1 + 1)), (by first | rfl | (simp; done) | (simp [*]; done)), (by first | rfl | (simp; done) | (simp [*]; done)), H', ⟨by have := HK1.out; have := HK2.out; have := HK3.out; omega⟩, ⟨by (with_reducible repeat (first | apply Kd.S_alloc | apply Kd.S_drewN | apply Kd.S_drew)); exact HO120.out⟩, ⟨by repeat (first | (with_reducible first | exact HB.out | apply below_alloc | apply pw_below_drewN | apply below_drew1 | refine below_set ?_ GE111.out) | exact HB.out)⟩⟩
                        · rw [if_neg c16] at H
                          exact absurd H (by simp)
          · rw [if_neg c4] at H
            exact absurd H (by simp)
        · rw [if_neg c3] at H
          exact absurd H (by simp)
      · rw [if_neg c2] at H
        have c2b0 : decide (x9_1 < (l0.length : Int)) = false := decide_eq_false c2
        clear c2
        obtain rfl := Option.some.inj H
        go_wp2
        go_ret
        exact ⟨_, by first | rfl | (simp [errW_none, errW_some] <;> rfl) | (simp [*, errW_none, errW_some] <;> rfl), by (with_reducible repeat (first | apply Kd.S_alloc | apply Kd.S_drewN | apply Kd.S_drew)); exact HO_3.out, by repeat (first | (with_reducible first | exact HB.out | apply below_alloc | apply pw_below_drewN | apply below_drew1) | exact HB.out)⟩

/-! ### spec_TxSameTexts: function 17 -/
def spec_TxSameTexts.l0 : Nat → List ByteArray → List ByteArray → Int → Int → Option (Bool)
  | 0, _, _, _, _ => none
  | k + 1, x0, x1, x12, x13 => if x13 < x12 then (if 0 ≤ x13 then (if x13 < (x0.length : Int) then (if x13 < (x1.length : Int) then (if (rdOf ByteArray.empty x0 x13).toList = (rdOf ByteArray.empty x1 x13).toList then (spec_TxSameTexts.l0 k x0 x1 x12 (wrap64 (x13 + 1))) else (some false)) else (none)) else (none)) else (none)) else (some true)
def spec_TxSameTexts.f (k : Nat) (l0 : List ByteArray) (l1 : List ByteArray) : Option (Bool) := if (l0.length : Int) = (l1.length : Int) then (spec_TxSameTexts.l0 k l0 l1 (l0.length : Int) 0) else (some false)
theorem spec_TxSameTexts.mono_l : ∀ k, (∀ y0 y1 y2 y3, LeO (spec_TxSameTexts.l0 k y0 y1 y2 y3) (spec_TxSameTexts.l0 (k + 1) y0 y1 y2 y3))
  | 0 => fun _ _ _ _ r h => by simp [spec_TxSameTexts.l0] at h
  | k + 1 => by
    have ih0 := spec_TxSameTexts.mono_l k
    · intro y0 y1 y2 y3
      unfold spec_TxSameTexts.l0
      repeat' first
      | (with_reducible exact ih0 _ _ _ _)
      | (with_reducible exact LeO.refl _)
      | (with_reducible exact LeO.none _)
      | (with_reducible refine LeO.ite ?_ ?_)
      | (with_reducible refine LeO.bind ?_ (fun _ => ?_))
      | exact ih0 _ _ _ _
      | exact LeO.none _
      | refine LeO.ite ?_ ?_
      | refine LeO.bind ?_ (fun _ => ?_)
theorem spec_TxSameTexts.mono : ∀ a0 a1 k, LeO (spec_TxSameTexts.f k a0 a1) (spec_TxSameTexts.f (k + 1) a0 a1) := by
  intro a0 a1 k
  have ih0 := spec_TxSameTexts.mono_l k
  unfold spec_TxSameTexts.f
  repeat' first
      | (with_reducible exact ih0 _ _ _ _)
      | (with_reducible exact LeO.refl _)
      | (with_reducible exact LeO.none _)
      | (with_reducible refine LeO.ite ?_ ?_)
      | (with_reducible refine LeO.bind ?_ (fun _ => ?_))
      | exact ih0 _ _ _ _
      | exact LeO.none _
      | refine LeO.ite ?_ ?_
      | refine LeO.bind ?_ (fun _ => ?_)
set_option maxHeartbeats 8000000 in
set_option maxRecDepth 100000 in
theorem spec_TxSameTexts.calls (k : Nat) (A0 : Option Addr) (c0 : Nat) (l0 : List ByteArray) (A1 : Option Addr) (c1 : Nat) (l1 : List ByteArray) (r : Bool) (w : World) (hr0 : Kd.C Kd.string w A0 l0.length l0) (hc0 : l0.length ≤ c0) (hr1 : Kd.C Kd.string w A1 l1.length l1) (hc1 : l1.length ≤ c1) (h : spec_TxSameTexts.f k l0 l1 = some r) :
    Calls Tryd.prog 17 #[.slice A0 l0.length c0, .slice A1 l1.length c1] w fun e w' => e = .returned (.bool r) ∧ Drawn0 w w' := by
  have HR0 := Aside0.mk hr0
  have HC0 := Aside0.mk hc0
  clear hr0 hc0
  have HR1 := Aside0.mk hr1
  have HC1 := Aside0.mk hc1
  clear hr1 hc1
  have H : (if (l0.length : Int) = (l1.length : Int) then (spec_TxSameTexts.l0 k l0 l1 (l0.length : Int) 0) else (some false)) = some r := h
  clear h
  by_cases c3 : (l0.length : Int) = (l1.length : Int)
  · rw [if_pos c3] at H
    have c3b0 : ((l0.length : Int) == (l1.length : Int)) = true := beq_iff_eq.mpr c3
    have c3b1 : ((l0.length : Int) != (l1.length : Int)) = false := bne_eq_false_iff_eq.mpr c3
    have c3b2 : (l0.length == l1.length) = true := by first | simpa using c3 | (simp at c3 ⊢; omega)
    clear c3
    have H' := Aside0.mk H
    clear H
    go_enter Tryd.func17, Tryd.ntmps17
    go_wp2
    repeat (go_quiet (fail); try go_wp2)
    go_loopg [13] k (fun kq v13 w' => ∃ (x13_1 : Int), v13 = .int .i64 x13_1 ∧ Aside0 (spec_TxSameTexts.l0 kq l0 l1 (l0.length : Int) x13_1 = some r) ∧ Aside0 (kq ≤ k) ∧ Drawn0 w w')
    case atStart => exact ⟨(0), (by first | rfl | (simp; done) | (simp [*]; done)), H', ⟨Nat.le_refl _⟩, by repeat (first | exact Drawn0.refl _ | apply Drawn0.step)⟩
    case round =>
      clear H'
      try clear c1
      try clear p2
      try clear c3
      try clear c3b0
      try clear c3b1
      try clear c3b2
      obtain ⟨x13_1, rfl, HA, HK1, ⟨m1, rfl⟩⟩ := hrel
      cases gk with
      | zero => exact absurd HA.out (by simp [spec_TxSameTexts.l0])
      | succ k1 =>
        have H := HA.out
        clear HA
        simp only [spec_TxSameTexts.l0] at H
        by_cases c4 : x13_1 < (l0.length : Int)
        · rw [if_pos c4] at H
          have c4b0 : decide (x13_1 < (l0.length : Int)) = true := decide_eq_true c4
          clear c4
          by_cases c5 : 0 ≤ x13_1
          · rw [if_pos c5] at H
            have c5b0 : decide (0 ≤ x13_1) = true := decide_eq_true c5
            clear c5
            by_cases c6 : x13_1 < (l0.length : Int)
            · rw [if_pos c6] at H
              have c6b0 : decide (x13_1 < (l0.length : Int)) = true := decide_eq_true c6
              clear c6
              by_cases c7 : x13_1 < (l1.length : Int)
              · rw [if_pos c7] at H
                have c7b0 : decide (x13_1 < (l1.length : Int)) = true := decide_eq_true c7
                clear c7
                by_cases c8 : (rdOf ByteArray.empty l0 x13_1).toList = (rdOf ByteArray.empty l1 x13_1).toList
                · rw [if_pos c8] at H
                  have c8b0 : ((rdOf ByteArray.empty l0 x13_1).toList == (rdOf ByteArray.empty l1 x13_1).toList) = true := beq_iff_eq.mpr c8
                  have c8b1 : ((rdOf ByteArray.empty l0 x13_1).toList != (rdOf ByteArray.empty l1 x13_1).toList) = false := bne_eq_false_iff_eq.mpr c8
                  clear c8
                  have H' := Aside0.mk H
                  clear H
                  have p121 : 0 ≤ (x13_1 : Int) := of_decide_eq_true (by first | (with_reducible assumption) | assumption)
                  have q121 : x13_1 < (l0.length : Int) := of_decide_eq_true (by first | (with_reducible assumption) | assumption)
                  obtain ⟨ad121, e121, hx121_0⟩ := Kd.at_string HR0.out x13_1 p121 q121
                  cases e121
                  (try simp only [Go.IntWalk.toNatUp] at hx121_0)
                  replace p121 := eq_true p121
                  replace q121 := eq_true q121
                  have p122 : 0 ≤ (x13_1 : Int) := of_decide_eq_true (by first | (with_reducible assumption) | assumption)
                  have q122 : x13_1 < (l1.length : Int) := of_decide_eq_true (by first | (with_reducible assumption) | assumption)
                  obtain ⟨ad122, e122, hx122_0⟩ := Kd.at_string HR1.out x13_1 p122 q122
                  cases e122
                  (try simp only [Go.IntWalk.toNatUp] at hx122_0)
                  replace p122 := eq_true p122
                  replace q122 := eq_true q122
                  go_wp2
                  repeat (go_quiet (fail); try go_wp2)
                  go_roundg k1
                  case measure => have := HK1.out; omega
                  case rel => exact ⟨(wrap64 (x13_1 + 1)), (by first | rfl | (simp; done) | (simp [*]; done)), H', ⟨by have := HK1.out; omega⟩, by repeat (first | exact Drawn0.refl _ | apply Drawn0.step)⟩
                · rw [if_neg c8] at H
                  have c8b0 : ((rdOf ByteArray.empty l0 x13_1).toList == (rdOf ByteArray.empty l1 x13_1).toList) = false := beq_eq_false_iff_ne.mpr c8
                  have c8b1 : ((rdOf ByteArray.empty l0 x13_1).toList != (rdOf ByteArray.empty l1 x13_1).toList) = true := bne_iff_ne.mpr c8
                  obtain rfl := Option.some.inj H
                  have p121 : 0 ≤ (x13_1 : Int) := of_decide_eq_true (by first | (with_reducible assumption) | assumption)
                  have q121 : x13_1 < (l0.length : Int) := of_decide_eq_true (by first | (with_reducible assumption) | assumption)
                  obtain ⟨ad121, e121, hx121_0⟩ := Kd.at_string HR0.out x13_1 p121 q121
                  cases e121
                  (try simp only [Go.IntWalk.toNatUp] at hx121_0)
                  replace p121 := eq_true p121
                  replace q121 := eq_true q121
                  have p122 : 0 ≤ (x13_1 : Int) := of_decide_eq_true (by first | (with_reducible assumption) | assumption)
                  have q122 : x13_1 < (l1.length : Int) := of_decide_eq_true (by first | (with_reducible assumption) | assumption)
                  obtain ⟨ad122, e122, hx122_0⟩ := Kd.at_string HR1.out x13_1 p122 q122
                  cases e122
                  (try simp only [Go.IntWalk.toNatUp] at hx122_0)
                  replace p122 := eq_true p122
                  replace q122 := eq_true q122
                  go_wp2
                  repeat (go_quiet (fail); try go_wp2)
                  go_ret
                  exact ⟨by first | rfl | (simp; done) | (simp [*]; done), by repeat (first | exact Drawn0.refl _ | apply Drawn0.step)⟩
              · rw [if_neg c7] at H
                exact absurd H (by simp)
            · rw [if_neg c6] at H
              exact absurd H (by simp)
          · rw [if_neg c5] at H
            exact absurd H (by simp)
        · rw [if_neg c4] at H
          have c4b0 : decide (x13_1 < (l0.length : Int)) = false := decide_eq_false c4
          clear c4
          obtain rfl := Option.some.inj H
          go_wp2
          repeat (go_quiet (fail); try go_wp2)
          go_ret
          exact ⟨by first | rfl | (simp; done) | (simp [*]; done), by repeat (first | exact Drawn0.refl _ | apply Drawn0.step)⟩
  · rw [if_neg c3] at H
    have c3b0 : ((l0.length : Int) == (l1.length : Int)) = false := beq_eq_false_iff_ne.mpr c3
    have c3b1 : ((l0.length : Int) != (l1.length : Int)) = true := bne_iff_ne.mpr c3
    have c3b2 : (l0.length == l1.length) = false := by first | simpa using c3 | (simp at c3 ⊢; omega)
    obtain rfl := Option.some.inj H
    go_enter Tryd.func17, Tryd.ntmps17
    go_wp2
    repeat (go_quiet (fail); try go_wp2)
    go_ret
    exact ⟨by first | rfl | (simp; done) | (simp [*]; done), by repeat (first | exact Drawn0.refl _ | apply Drawn0.step)⟩

/-! ### spec_LsExample: function 18 -/
def spec_LsExample.f  : Option ((List (S33))) := some (([(⟨(⟨#[71, 97, 109, 101, 32, 79, 102, 32, 84, 104, 114, 111, 110, 101, 115]⟩ : ByteArray), 0⟩ : S33), (⟨(⟨#[87, 105, 110, 116, 101, 114]⟩ : ByteArray), 1⟩ : S33), (⟨(⟨#[73, 115]⟩ : ByteArray), 1⟩ : S33), (⟨(⟨#[67, 111, 109, 105, 110, 103]⟩ : ByteArray), 1⟩ : S33), (⟨(⟨#[84, 104, 105, 115]⟩ : ByteArray), 2⟩ : S33), (⟨(⟨#[73, 115]⟩ : ByteArray), 2⟩ : S33), (⟨(⟨#[75, 110, 111, 119, 110]⟩ : ByteArray), 2⟩ : S33), (⟨(⟨#[84, 104, 101, 32, 68, 97, 114, 107, 32, 84, 111, 119, 101, 114]⟩ : ByteArray), 0⟩ : S33), (⟨(⟨#[84, 104, 101, 32, 71, 117, 110, 115, 108, 105, 110, 103, 101, 114]⟩ : ByteArray), 1⟩ : S33)] : List (S33)))
set_option maxHeartbeats 8000000 in
set_option maxRecDepth 100000 in
theorem spec_LsExample.calls  (r : List (S33)) (w : World) (h : spec_LsExample.f  = some r) :
    Calls Tryd.prog 18 #[] w fun e w' => ∃ v0_ : Value, e = .returned (v0_) ∧ Kd.R k33 33 w' w.heap.size (fun _ => True) v0_ r ∧ Below w.heap.size w w' := by
  have hu33 := Tryd.underlying33
  have HB := Aside0.mk (Below.refl w.heap.size w)
  have H : (some (([(⟨(⟨#[71, 97, 109, 101, 32, 79, 102, 32, 84, 104, 114, 111, 110, 101, 115]⟩ : ByteArray), 0⟩ : S33), (⟨(⟨#[87, 105, 110, 116, 101, 114]⟩ : ByteArray), 1⟩ : S33), (⟨(⟨#[73, 115]⟩ : ByteArray), 1⟩ : S33), (⟨(⟨#[67, 111, 109, 105, 110, 103]⟩ : ByteArray), 1⟩ : S33), (⟨(⟨#[84, 104, 105, 115]⟩ : ByteArray), 2⟩ : S33), (⟨(⟨#[73, 115]⟩ : ByteArray), 2⟩ : S33), (⟨(⟨#[75, 110, 111, 119, 110]⟩ : ByteArray), 2⟩ : S33), (⟨(⟨#[84, 104, 101, 32, 68, 97, 114, 107, 32, 84, 111, 119, 101, 114]⟩ : ByteArray), 0⟩ : S33), (⟨(⟨#[84, 104, 101, 32, 71, 117, 110, 115, 108, 105, 110, 103, 101, 114]⟩ : ByteArray), 1⟩ : S33)] : List (S33)))) = some r := h
  clear h
  obtain ⟨y123, hy123⟩ : ∃ y_ : List (S33), y_ = (([(⟨(⟨#[71, 97, 109, 101, 32, 79, 102, 32, 84, 104, 114, 111, 110, 101, 115]⟩ : ByteArray), 0⟩ : S33), (⟨(⟨#[87, 105, 110, 116, 101, 114]⟩ : ByteArray), 1⟩ : S33), (⟨(⟨#[73, 115]⟩ : ByteArray), 1⟩ : S33), (⟨(⟨#[67, 111, 109, 105, 110, 103]⟩ : ByteArray), 1⟩ : S33), (⟨(⟨#[84, 104, 105, 115]⟩ : ByteArray), 2⟩ : S33), (⟨(⟨#[73, 115]⟩ : ByteArray), 2⟩ : S33), (⟨(⟨#[75, 110, 111, 119, 110]⟩ : ByteArray), 2⟩ : S33), (⟨(⟨#[84, 104, 101, 32, 68, 97, 114, 107, 32, 84, 111, 119, 101, 114]⟩ : ByteArray), 0⟩ : S33), (⟨(⟨#[84, 104, 101, 32, 71, 117, 110, 115, 108, 105, 110, 103, 101, 114]⟩ : ByteArray), 1⟩ : S33)] : List (S33))) := ⟨_, rfl⟩
  replace H : (some y123) = some r := by first | (rw [hy123]; with_reducible exact H) | (have H2_ := (Option.bind_some _ _).symm.trans H; rw [hy123]; with_reducible exact H2_) | (have H2_ := (Option.bind_some _ _).symm.trans H; with_reducible exact H2_) | with_reducible exact H | (rw [hy123]; exact H) | exact H
  have Ny123 := Aside0.mk hy123
  clear hy123
  obtain rfl := Option.some.inj H
  go_enter Tryd.func18, Tryd.ntmps18
  go_wp2_with (first | ((with_reducible refine gate_dst (N := 10) rfl ?_); refine Kd.R_lit k33 _ 33 ?hg (N := 10) ?hd (xs := ([(⟨(⟨#[71, 97, 109, 101, 32, 79, 102, 32, 84, 104, 114, 111, 110, 101, 115]⟩ : ByteArray), 0⟩ : S33), (⟨(⟨#[87, 105, 110, 116, 101, 114]⟩ : ByteArray), 1⟩ : S33), (⟨(⟨#[73, 115]⟩ : ByteArray), 1⟩ : S33), (⟨(⟨#[67, 111, 109, 105, 110, 103]⟩ : ByteArray), 1⟩ : S33), (⟨(⟨#[84, 104, 105, 115]⟩ : ByteArray), 2⟩ : S33), (⟨(⟨#[73, 115]⟩ : ByteArray), 2⟩ : S33), (⟨(⟨#[75, 110, 111, 119, 110]⟩ : ByteArray), 2⟩ : S33), (⟨(⟨#[84, 104, 101, 32, 68, 97, 114, 107, 32, 84, 111, 119, 101, 114]⟩ : ByteArray), 0⟩ : S33), (⟨(⟨#[84, 104, 101, 32, 71, 117, 110, 115, 108, 105, 110, 103, 101, 114]⟩ : ByteArray), 1⟩ : S33)] : List (S33))) (inner := [.string (⟨#[71, 97, 109, 101, 32, 79, 102, 32, 84, 104, 114, 111, 110, 101, 115]⟩ : ByteArray), .int .i64 0, .string (⟨#[87, 105, 110, 116, 101, 114]⟩ : ByteArray), .int .i64 1, .string (⟨#[73, 115]⟩ : ByteArray), .int .i64 1, .string (⟨#[67, 111, 109, 105, 110, 103]⟩ : ByteArray), .int .i64 1, .string (⟨#[84, 104, 105, 115]⟩ : ByteArray), .int .i64 2, .string (⟨#[73, 115]⟩ : ByteArray), .int .i64 2, .string (⟨#[75, 110, 111, 119, 110]⟩ : ByteArray), .int .i64 2, .string (⟨#[84, 104, 101, 32, 68, 97, 114, 107, 32, 84, 111, 119, 101, 114]⟩ : ByteArray), .int .i64 0, .string (⟨#[84, 104, 101, 32, 71, 117, 110, 115, 108, 105, 110, 103, 101, 114]⟩ : ByteArray), .int .i64 1]) (ok := fun _ => True) (okp := fun _ => True) ?hr ?hp (fun _ hk => hk) trivial (Below.refl _ _) (Nat.le_refl _) (by simp) ?_; (case hd => rfl); (case hg => rfl); (case hr => first | (go_simp; done) | (go_simp; rfl)); (case hp => exact (Reps.c2 (show Kd.M k33 _ _ _ (⟨(⟨#[71, 97, 109, 101, 32, 79, 102, 32, 84, 104, 114, 111, 110, 101, 115]⟩ : ByteArray), 0⟩ : S33) [.string (⟨#[71, 97, 109, 101, 32, 79, 102, 32, 84, 104, 114, 111, 110, 101, 115]⟩ : ByteArray), .int .i64 0] from (k33_mkM _ _ _ (⟨(⟨#[71, 97, 109, 101, 32, 79, 102, 32, 84, 104, 114, 111, 110, 101, 115]⟩ : ByteArray), 0⟩ : S33) )) (Reps.c2 (show Kd.M k33 _ _ _ (⟨(⟨#[87, 105, 110, 116, 101, 114]⟩ : ByteArray), 1⟩ : S33) [.string (⟨#[87, 105, 110, 116, 101, 114]⟩ : ByteArray), .int .i64 1] from (k33_mkM _ _ _ (⟨(⟨#[87, 105, 110, 116, 101, 114]⟩ : ByteArray), 1⟩ : S33) )) (Reps.c2 (show Kd.M k33 _ _ _ (⟨(⟨#[73, 115]⟩ : ByteArray), 1⟩ : S33) [.string (⟨#[73, 115]⟩ : ByteArray), .int .i64 1] from (k33_mkM _ _ _ (⟨(⟨#[73, 115]⟩ : ByteArray), 1⟩ : S33) )) (Reps.c2 (show Kd.M k33 _ _ _ (⟨(⟨#[67, 111, 109, 105, 110, 103]⟩ : ByteArray), 1⟩ : S33) [.string (⟨#[67, 111, 109, 105, 110, 103]⟩ : ByteArray), .int .i64 1] from (k33_mkM _ _ _ (⟨(⟨#[67, 111, 109, 105, 110, 103]⟩ : ByteArray), 1⟩ : S33) )) (Reps.c2 (show Kd.M k33 _ _ _ (⟨(⟨#[84, 104, 105, 115]⟩ : ByteArray), 2⟩ : S33) [.string (⟨#[84, 104, 105, 115]⟩ : ByteArray), .int .i64 2] from (k33_mkM _ _ _ (⟨(⟨#[84, 104, 105, 115]⟩ : ByteArray), 2⟩ : S33) )) (Reps.c2 (show Kd.M k33 _ _ _ (⟨(⟨#[73, 115]⟩ : ByteArray), 2⟩ : S33) [.string (⟨#[73, 115]⟩ : ByteArray), .int .i64 2] from (k33_mkM _ _ _ (⟨(⟨#[73, 115]⟩ : ByteArray), 2⟩ : S33) )) (Reps.c2 (show Kd.M k33 _ _ _ (⟨(⟨#[75, 110, 111, 119, 110]⟩ : ByteArray), 2⟩ : S33) [.string (⟨#[75, 110, 111, 119, 110]⟩ : ByteArray), .int .i64 2] from (k33_mkM _ _ _ (⟨(⟨#[75, 110, 111, 119, 110]⟩ : ByteArray), 2⟩ : S33) )) (Reps.c2 (show Kd.M k33 _ _ _ (⟨(⟨#[84, 104, 101, 32, 68, 97, 114, 107, 32, 84, 111, 119, 101, 114]⟩ : ByteArray), 0⟩ : S33) [.string (⟨#[84, 104, 101, 32, 68, 97, 114, 107, 32, 84, 111, 119, 101, 114]⟩ : ByteArray), .int .i64 0] from (k33_mkM _ _ _ (⟨(⟨#[84, 104, 101, 32, 68, 97, 114, 107, 32, 84, 111, 119, 101, 114]⟩ : ByteArray), 0⟩ : S33) )) (Reps.c2 (show Kd.M k33 _ _ _ (⟨(⟨#[84, 104, 101, 32, 71, 117, 110, 115, 108, 105, 110, 103, 101, 114]⟩ : ByteArray), 1⟩ : S33) [.string (⟨#[84, 104, 101, 32, 71, 117, 110, 115, 108, 105, 110, 103, 101, 114]⟩ : ByteArray), .int .i64 1] from (k33_mkM _ _ _ (⟨(⟨#[84, 104, 101, 32, 71, 117, 110, 115, 108, 105, 110, 103, 101, 114]⟩ : ByteArray), 1⟩ : S33) )) (Reps.none _ _))))))))))); intro v124 w1 ho2 hb hg_ hnew_; clear hg_ hnew_; (first | rw [← Ny123.out] at ho2 | (simp only [Int.reduceToNat] at ho2; rw [← Ny123.out] at ho2)); have n0_ := Aside0.mk (Kd.R_lower ho2 (below_size (by repeat (first | (with_reducible first | exact HB.out | apply below_alloc | apply pw_below_drewN | apply below_drew1) | exact HB.out)))); have n1_ := Aside0.mk (below_step (by repeat (first | (with_reducible first | exact HB.out | apply below_alloc | apply pw_below_drewN | apply below_drew1) | exact HB.out)) hb); clear HB; have HO125 := n0_; have HB := n1_; clear n0_ n1_; clear hb ho2))
  go_ret
  exact ⟨_, by first | rfl | (simp [errW_none, errW_some] <;> rfl) | (simp [*, errW_none, errW_some] <;> rfl), by (with_reducible repeat (first | apply Kd.R_alloc | apply Kd.R_drewN | apply Kd.R_drew)); exact HO125.out, by repeat (first | (with_reducible first | exact HB.out | apply below_alloc | apply pw_below_drewN | apply below_drew1) | exact HB.out)⟩

-- BY HAND: function 19 (impl_ListNamed)

-- BY HAND: function 20 (spec_LsFigure)

/-! ### laws_FnListFigure: function 5 -/
def laws_FnListFigure.f (k : Nat) (a0 : Int) : Option (Bool) := (spec_LsExample.f).bind fun t126 => ((spec_LsSteps.f k t126).bind fun t129 => ((impl_ListNamed.f (wrap64 (Int.tmod a0 11))).bind fun bt132 => ((impl_ListRender.f t129 bt132.1 bt132.2.1 bt132.2.2.1 bt132.2.2.2.1 bt132.2.2.2.2.1 bt132.2.2.2.2.2.1 bt132.2.2.2.2.2.2.1 bt132.2.2.2.2.2.2.2.1 bt132.2.2.2.2.2.2.2.2).bind fun t141 => ((spec_TxLines.f k t141).bind fun t142 => ((spec_LsFigure.f (wrap64 (Int.tmod a0 11))).bind fun t145 => ((spec_TxSameTexts.f k t142 t145).bind fun t148 => (some t148)))))))
theorem laws_FnListFigure.mono : ∀ a0 k, LeO (laws_FnListFigure.f k a0) (laws_FnListFigure.f (k + 1) a0) := by
  intro a0 k
  unfold laws_FnListFigure.f
  repeat' first
      | (with_reducible exact spec_LsSteps.mono _ _)
      | (with_reducible exact spec_TxLines.mono _ _)
      | (with_reducible exact spec_TxSameTexts.mono _ _ _)
      | (with_reducible exact LeO.refl _)
      | (with_reducible exact LeO.none _)
      | (with_reducible refine LeO.ite ?_ ?_)
      | (with_reducible refine LeO.bind ?_ (fun _ => ?_))
      | exact spec_LsSteps.mono _ _
      | exact spec_TxLines.mono _ _
      | exact spec_TxSameTexts.mono _ _ _
      | exact LeO.none _
      | refine LeO.ite ?_ ?_
      | refine LeO.bind ?_ (fun _ => ?_)
set_option maxHeartbeats 8000000 in
set_option maxRecDepth 100000 in
theorem laws_FnListFigure.calls (k : Nat) (a0 : Int) (r : Bool) (w : World) (h : laws_FnListFigure.f k a0 = some r) :
    Calls Tryd.prog 5 #[.int .u8 a0] w fun e w' => e = .returned (.bool r) ∧ Below w.heap.size w w' := by
  have HB := Aside0.mk (Below.refl w.heap.size w)
  have H : ((spec_LsExample.f).bind fun t126 => ((spec_LsSteps.f k t126).bind fun t129 => ((impl_ListNamed.f (wrap64 (Int.tmod a0 11))).bind fun bt132 => ((impl_ListRender.f t129 bt132.1 bt132.2.1 bt132.2.2.1 bt132.2.2.2.1 bt132.2.2.2.2.1 bt132.2.2.2.2.2.1 bt132.2.2.2.2.2.2.1 bt132.2.2.2.2.2.2.2.1 bt132.2.2.2.2.2.2.2.2).bind fun t141 => ((spec_TxLines.f k t141).bind fun t142 => ((spec_LsFigure.f (wrap64 (Int.tmod a0 11))).bind fun t145 => ((spec_TxSameTexts.f k t142 t145).bind fun t148 => (some t148)))))))) = some r := h
  clear h
  replace H := Option.bind_eq_some_iff.mp H
  obtain ⟨t126, A20, H⟩ := H
  replace H : ((spec_LsSteps.f k t126).bind fun t129 => ((impl_ListNamed.f (wrap64 (Int.tmod a0 11))).bind fun bt132 => ((impl_ListRender.f t129 bt132.1 bt132.2.1 bt132.2.2.1 bt132.2.2.2.1 bt132.2.2.2.2.1 bt132.2.2.2.2.2.1 bt132.2.2.2.2.2.2.1 bt132.2.2.2.2.2.2.2.1 bt132.2.2.2.2.2.2.2.2).bind fun t141 => ((spec_TxLines.f k t141).bind fun t142 => ((spec_LsFigure.f (wrap64 (Int.tmod a0 11))).bind fun t145 => ((spec_TxSameTexts.f k t142 t145).bind fun t148 => (some t148))))))) = some r := H
  have A2 := Aside0.mk A20
  clear A20
  replace H := Option.bind_eq_some_iff.mp H
  obtain ⟨t129, A30, H⟩ := H
  replace H : ((impl_ListNamed.f (wrap64 (Int.tmod a0 11))).bind fun bt132 => ((impl_ListRender.f t129 bt132.1 bt132.2.1 bt132.2.2.1 bt132.2.2.2.1 bt132.2.2.2.2.1 bt132.2.2.2.2.2.1 bt132.2.2.2.2.2.2.1 bt132.2.2.2.2.2.2.2.1 bt132.2.2.2.2.2.2.2.2).bind fun t141 => ((spec_TxLines.f k t141).bind fun t142 => ((spec_LsFigure.f (wrap64 (Int.tmod a0 11))).bind fun t145 => ((spec_TxSameTexts.f k t142 t145).bind fun t148 => (some t148)))))) = some r := H
  have A3 := Aside0.mk A30
  clear A30
  replace H := Option.bind_eq_some_iff.mp H
  obtain ⟨⟨t132, t133, t134, t135, t136, t137, t138, t139, t140⟩, A40, H⟩ := H
  replace H : ((impl_ListRender.f t129 t132 t133 t134 t135 t136 t137 t138 t139 t140).bind fun t141 => ((spec_TxLines.f k t141).bind fun t142 => ((spec_LsFigure.f (wrap64 (Int.tmod a0 11))).bind fun t145 => ((spec_TxSameTexts.f k t142 t145).bind fun t148 => (some t148))))) = some r := H
  have A4 := Aside0.mk A40
  clear A40
  replace H := Option.bind_eq_some_iff.mp H
  obtain ⟨t141, A50, H⟩ := H
  replace H : ((spec_TxLines.f k t141).bind fun t142 => ((spec_LsFigure.f (wrap64 (Int.tmod a0 11))).bind fun t145 => ((spec_TxSameTexts.f k t142 t145).bind fun t148 => (some t148)))) = some r := H
  have A5 := Aside0.mk A50
  clear A50
  replace H := Option.bind_eq_some_iff.mp H
  obtain ⟨t142, A60, H⟩ := H
  replace H : ((spec_LsFigure.f (wrap64 (Int.tmod a0 11))).bind fun t145 => ((spec_TxSameTexts.f k t142 t145).bind fun t148 => (some t148))) = some r := H
  have A6 := Aside0.mk A60
  clear A60
  replace H := Option.bind_eq_some_iff.mp H
  obtain ⟨t145, A70, H⟩ := H
  replace H : ((spec_TxSameTexts.f k t142 t145).bind fun t148 => (some t148)) = some r := H
  have A7 := Aside0.mk A70
  clear A70
  replace H := Option.bind_eq_some_iff.mp H
  obtain ⟨t148, A80, H⟩ := H
  replace H : (some t148) = some r := H
  have A8 := Aside0.mk A80
  clear A80
  obtain rfl := Option.some.inj H
  go_enter Tryd.func5, Tryd.ntmps5
  go_wp2_with (first | ((with_reducible refine gate_callee (f := 18) rfl ?_); refine goesL_ (some 7) rfl rfl Tryd.func18 (by kernel_rfl) rfl #[] rfl (by (try simp only [List.map_toArray, List.map_cons, List.map_nil]); first | done | rfl | (simp only [List.length_drop, List.length_take]; rfl)) ?_; (with_reducible refine (spec_LsExample.calls  t126 _ A2.out).mono ?_); rintro e w9 ⟨v127, rfl, ho0, hb⟩; refine ⟨_, rfl, ?_⟩; have n0_ := Aside0.mk (Kd.R_lower ho0 (below_size (by repeat (first | (with_reducible first | exact HB.out | apply below_alloc | apply pw_below_drewN | apply below_drew1) | exact HB.out)))); have n1_ := Aside0.mk (below_step (by repeat (first | (with_reducible first | exact HB.out | apply below_alloc | apply pw_below_drewN | apply below_drew1) | exact HB.out)) hb); clear HB; have HO128 := n0_; have HB := n1_; clear n0_ n1_; (try clear hb); (try clear hb2); (try clear hk); (try clear hi); (try clear ho0); obtain ⟨Ao10, co10, eo10⟩ := Kd.R_slice HO128.out; subst eo10) | ((with_reducible refine gate_callee (f := 12) rfl ?_); refine goesL_ (some 8) rfl rfl Tryd.func12 (by kernel_rfl) rfl #[.slice Ao10 t126.length co10] rfl (by (try simp only [List.map_toArray, List.map_cons, List.map_nil]); first | done | rfl | (simp only [List.length_drop, List.length_take]; rfl)) ?_; (with_reducible refine (spec_LsSteps.calls k _ _ t126 t129 _ ?side1 ?side2 A3.out).mono ?_); (case side1 => repeat (first | exact (Kd.R_reads' HO128.out).2.2 | (with_reducible refine Kd.C_alloc ?_ _) | (with_reducible refine Kd.C_drewN ?_ _) | (with_reducible refine Kd.C_drew ?_))); (case side2 => exact (Kd.R_reads' HO128.out).2.1); rintro e w11 ⟨v130, rfl, ho0, hb⟩; refine ⟨_, rfl, ?_⟩; have n0_ := Aside0.mk (Kd.R_below (by (with_reducible repeat (first | apply Kd.R_alloc | apply Kd.R_drewN | apply Kd.R_drew)); exact HO128.out) hb); have n1_ := Aside0.mk (Kd.S_lower ho0 (below_size (by repeat (first | (with_reducible first | exact HB.out | apply below_alloc | apply pw_below_drewN | apply below_drew1) | exact HB.out)))); have n2_ := Aside0.mk (below_step (by repeat (first | (with_reducible first | exact HB.out | apply below_alloc | apply pw_below_drewN | apply below_drew1) | exact HB.out)) hb); clear HO128; clear HB; have HO128 := n0_; have HO131 := n1_; have HB := n2_; clear n0_ n1_ n2_; (try clear hb); (try clear hb2); (try clear hk); (try clear hi); (try clear ho0)) | ((with_reducible refine gate_callee (f := 19) rfl ?_); refine goesL_ (some 10) rfl rfl Tryd.func19 (by kernel_rfl) rfl #[.int .i64 (wrap64 (Int.tmod a0 11))] rfl (by (try simp only [List.map_toArray, List.map_cons, List.map_nil]); first | done | rfl | (simp only [List.length_drop, List.length_take]; rfl)) ?_; (with_reducible refine (impl_ListNamed.calls (wrap64 (Int.tmod a0 11)) t132 t133 t134 t135 t136 t137 t138 t139 t140 _ A4.out).mono ?_); rintro e w12 ⟨rfl, hb⟩; refine ⟨_, rfl, ?_⟩; have n0_ := Aside0.mk (Kd.R_below (by (with_reducible repeat (first | apply Kd.R_alloc | apply Kd.R_drewN | apply Kd.R_drew)); exact HO128.out) hb); have n1_ := Aside0.mk (Kd.S_below (by (with_reducible repeat (first | apply Kd.S_alloc | apply Kd.S_drewN | apply Kd.S_drew)); exact HO131.out) hb); have n2_ := Aside0.mk (below_step (by repeat (first | (with_reducible first | exact HB.out | apply below_alloc | apply pw_below_drewN | apply below_drew1) | exact HB.out)) hb); clear HO128; clear HO131; clear HB; have HO128 := n0_; have HO131 := n1_; have HB := n2_; clear n0_ n1_ n2_; (try clear hb); (try clear hb2); (try clear hk); (try clear hi); obtain ⟨Ao13, co13, eo13⟩ := Kd.S_slice HO131.out; subst eo13) | ((with_reducible refine gate_callee (f := 11) rfl ?_); refine goesL_ (some 11) rfl rfl Tryd.func11 (by kernel_rfl) rfl #[.slice Ao13 t129.length co13, .agg #[.int .i64 t132, .string t133, .string t134, .string t135, .string t136, .string t137, .string t138, .string t139, .string t140]] rfl (by (try simp only [List.map_toArray, List.map_cons, List.map_nil]); first | done | rfl | (simp only [List.length_drop, List.length_take]; rfl)) ?_; (with_reducible refine (impl_ListRender.calls _ _ t129 t132 t133 t134 t135 t136 t137 t138 t139 t140 t141 _ ?side1 ?side2 A5.out).mono ?_); (case side1 => repeat (first | exact (Kd.S_reads' HO131.out).2.2 | (with_reducible refine Kd.C_alloc ?_ _) | (with_reducible refine Kd.C_drewN ?_ _) | (with_reducible refine Kd.C_drew ?_))); (case side2 => exact (Kd.S_reads' HO131.out).2.1); rintro e w14 ⟨rfl, hb⟩; refine ⟨_, rfl, ?_⟩; have n0_ := Aside0.mk (Kd.R_below (by (with_reducible repeat (first | apply Kd.R_alloc | apply Kd.R_drewN | apply Kd.R_drew)); exact HO128.out) hb); have n1_ := Aside0.mk (Kd.S_below (by (with_reducible repeat (first | apply Kd.S_alloc | apply Kd.S_drewN | apply Kd.S_drew)); exact HO131.out) hb); have n2_ := Aside0.mk (below_step (by repeat (first | (with_reducible first | exact HB.out | apply below_alloc | apply pw_below_drewN | apply below_drew1) | exact HB.out)) hb); clear HO128; clear HO131; clear HB; have HO128 := n0_; have HO131 := n1_; have HB := n2_; clear n0_ n1_ n2_; (try clear hb); (try clear hb2); (try clear hk); (try clear hi)) | ((with_reducible refine gate_callee (f := 10) rfl ?_); refine goesL_ (some 12) rfl rfl Tryd.func10 (by kernel_rfl) rfl #[.string t141] rfl (by (try simp only [List.map_toArray, List.map_cons, List.map_nil]); first | done | rfl | (simp only [List.length_drop, List.length_take]; rfl)) ?_; (with_reducible refine (spec_TxLines.calls k t141 t142 _ A6.out).mono ?_); rintro e w15 ⟨v143, rfl, ho0, hb⟩; refine ⟨_, rfl, ?_⟩; have n0_ := Aside0.mk (Kd.R_below (by (with_reducible repeat (first | apply Kd.R_alloc | apply Kd.R_drewN | apply Kd.R_drew)); exact HO128.out) hb); have n1_ := Aside0.mk (Kd.S_elder' (by (with_reducible repeat (first | apply Kd.S_alloc | apply Kd.S_drewN | apply Kd.S_drew)); exact HO131.out) (Kd.R_base ho0) hb); have n2_ := Aside0.mk (Kd.R_lower ho0 (below_size (by repeat (first | (with_reducible first | exact HB.out | apply below_alloc | apply pw_below_drewN | apply below_drew1) | exact HB.out)))); have n3_ := Aside0.mk (below_step (by repeat (first | (with_reducible first | exact HB.out | apply below_alloc | apply pw_below_drewN | apply below_drew1) | exact HB.out)) hb); clear HO128; clear HO131; clear HB; have HO128 := n0_; have HO131 := n1_; have HO144 := n2_; have HB := n3_; clear n0_ n1_ n2_ n3_; (try clear hb); (try clear hb2); (try clear hk); (try clear hi); (try clear ho0)) | ((with_reducible refine gate_callee (f := 20) rfl ?_); refine goesL_ (some 14) rfl rfl Tryd.func20 (by kernel_rfl) rfl #[.int .i64 (wrap64 (Int.tmod a0 11))] rfl (by (try simp only [List.map_toArray, List.map_cons, List.map_nil]); first | done | rfl | (simp only [List.length_drop, List.length_take]; rfl)) ?_; (with_reducible refine (spec_LsFigure.calls (wrap64 (Int.tmod a0 11)) t145 _ A7.out).mono ?_); rintro e w16 ⟨v146, rfl, ho0, hb⟩; refine ⟨_, rfl, ?_⟩; have n0_ := Aside0.mk (Kd.R_below (by (with_reducible repeat (first | apply Kd.R_alloc | apply Kd.R_drewN | apply Kd.R_drew)); exact HO128.out) hb); have n1_ := Aside0.mk (Kd.S_elder' (by (with_reducible repeat (first | apply Kd.S_alloc | apply Kd.S_drewN | apply Kd.S_drew)); exact HO131.out) (Kd.R_base ho0) hb); have n2_ := Aside0.mk (Kd.R_elder' (by (with_reducible repeat (first | apply Kd.R_alloc | apply Kd.R_drewN | apply Kd.R_drew)); exact HO144.out) (Kd.R_base ho0) hb); have n3_ := Aside0.mk (Kd.R_lower (Kd.R_new' ho0 (Kd.R_lt (by (with_reducible repeat (first | apply Kd.R_alloc | apply Kd.R_drewN | apply Kd.R_drew)); exact HO144.out))) (below_size (by repeat (first | (with_reducible first | exact HB.out | apply below_alloc | apply pw_below_drewN | apply below_drew1) | exact HB.out)))); have n4_ := Aside0.mk (below_step (by repeat (first | (with_reducible first | exact HB.out | apply below_alloc | apply pw_below_drewN | apply below_drew1) | exact HB.out)) hb); clear HO128; clear HO131; clear HO144; clear HB; have HO128 := n0_; have HO131 := n1_; have HO144 := n2_; have HO147 := n3_; have HB := n4_; clear n0_ n1_ n2_ n3_ n4_; (try clear hb); (try clear hb2); (try clear hk); (try clear hi); (try clear ho0); obtain ⟨Ao17, co17, eo17⟩ := Kd.R_slice HO144.out; subst eo17; obtain ⟨Ao18, co18, eo18⟩ := Kd.R_slice HO147.out; subst eo18) | ((with_reducible refine gate_callee (f := 17) rfl ?_); refine goesL_ (some 15) rfl rfl Tryd.func17 (by kernel_rfl) rfl #[.slice Ao17 t142.length co17, .slice Ao18 t145.length co18] rfl (by (try simp only [List.map_toArray, List.map_cons, List.map_nil]); first | done | rfl | (simp only [List.length_drop, List.length_take]; rfl)) ?_; (with_reducible refine (spec_TxSameTexts.calls k _ _ t142 _ _ t145 t148 _ ?side1 ?side2 ?side3 ?side4 A8.out).mono ?_); (case side1 => repeat (first | exact (Kd.R_reads' HO144.out).2.2 | (with_reducible refine Kd.C_alloc ?_ _) | (with_reducible refine Kd.C_drewN ?_ _) | (with_reducible refine Kd.C_drew ?_))); (case side2 => exact (Kd.R_reads' HO144.out).2.1); (case side3 => repeat (first | exact (Kd.R_reads' HO147.out).2.2 | (with_reducible refine Kd.C_alloc ?_ _) | (with_reducible refine Kd.C_drewN ?_ _) | (with_reducible refine Kd.C_drew ?_))); (case side4 => exact (Kd.R_reads' HO147.out).2.1); rintro e w' ⟨rfl, ⟨nd, rfl⟩⟩; refine ⟨_, rfl, ?_⟩))
  go_ret
  exact ⟨by first | rfl | (simp [errW_none, errW_some] <;> rfl) | (simp [*, errW_none, errW_some] <;> rfl), by repeat (first | (with_reducible first | exact HB.out | apply below_alloc | apply pw_below_drewN | apply below_drew1) | exact HB.out)⟩

def laws_FnListFigure.Pure : Prop := ∀ (a0 : Int), (Lit.int .u8 a0).wf = true → ∃ k, laws_FnListFigure.f k a0 = some true

end Go.Proofs.YtmakcmggicedfaaDoor.PFnListFigure
