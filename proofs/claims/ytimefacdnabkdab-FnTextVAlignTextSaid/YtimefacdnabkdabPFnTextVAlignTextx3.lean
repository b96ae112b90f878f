-- Written by hprint.py, a program of this session
import Derived.Test.YtimefacdnabkdabPFnTextVAlignTextx0
import Derived.Test.YtimefacdnabkdabPFnTextVAlignTextx1
import Derived.Test.YtimefacdnabkdabPFnTextVAlignTextx2
namespace Go.Proofs.Ytimefacdnabkdab.PFnTextVAlignText
open Go.RowKit Go.Proofs.Ytimefacdnabkdab.Hand Go.Proofs.YtimefacdnabkdabW.PrintWords Go.Proofs.YtimefacdnabkdabW.PrintLast Go.Proofs.YtimefacdnabkdabW.PrintMore
attribute [local go_sem] max2_int min2_int max_two min_two max_three min_three max_four min_four   -- for this text's walks alone
set_option linter.unusedVariables false
set_option linter.unusedSimpArgs false

/-! ### text_VAlign_ApplyStr: function 35 -/
def text_VAlign_ApplyStr.f (k : Nat) (a0 : Int) (a1 : ByteArray) (a2 : Int) : Option (List ByteArray) := (text_zzSplit.f k a1 (⟨#[10]⟩ : ByteArray)).bind fun t128 => ((text_VAlign_Apply.f k a0 t128 a2).bind fun t131 => (some t131))
theorem text_VAlign_ApplyStr.mono : ∀ a0 a1 a2 k, LeO (text_VAlign_ApplyStr.f k a0 a1 a2) (text_VAlign_ApplyStr.f (k + 1) a0 a1 a2) := by
  intro a0 a1 a2 k
  unfold text_VAlign_ApplyStr.f
  repeat' first
      | (with_reducible exact text_VAlign_Apply.mono _ _ _ _)
      | (with_reducible exact text_zzSplit.mono _ _ _)
      | (with_reducible exact LeO.refl _)
      | (with_reducible exact LeO.none _)
      | (with_reducible refine LeO.ite ?_ ?_)
      | (with_reducible refine LeO.bind ?_ (fun _ => ?_))
      | exact text_VAlign_Apply.mono _ _ _ _
      | exact text_zzSplit.mono _ _ _
      | exact LeO.none _
      | refine LeO.ite ?_ ?_
      | refine LeO.bind ?_ (fun _ => ?_)
set_option maxHeartbeats 8000000 in
set_option maxRecDepth 100000 in
theorem text_VAlign_ApplyStr.calls (k : Nat) (a0 : Int) (a1 : ByteArray) (a2 : Int) (r : List ByteArray) (w : World) (h : text_VAlign_ApplyStr.f k a0 a1 a2 = some r) :
    Calls Try.prog 35 #[.int .i64 a0, .string a1, .int .i64 a2] w fun e w' => ∃ v0_ : Value, e = .returned (v0_) ∧ Kd.R Kd.string 9 w' w.heap.size (fun _ => True) v0_ r ∧ Below w.heap.size w w' := by
  have HB := Aside0.mk (Below.refl w.heap.size w)
  have H : ((text_zzSplit.f k a1 (⟨#[10]⟩ : ByteArray)).bind fun t128 => ((text_VAlign_Apply.f k a0 t128 a2).bind fun t131 => (some t131))) = some r := h
  clear h
  replace H := Option.bind_eq_some_iff.mp H
  obtain ⟨t128, A40, H⟩ := H
  replace H : ((text_VAlign_Apply.f k a0 t128 a2).bind fun t131 => (some t131)) = some r := H
  have A4 := Aside0.mk A40
  clear A40
  replace H := Option.bind_eq_some_iff.mp H
  obtain ⟨t131, A50, H⟩ := H
  replace H : (some t131) = some r := H
  have A5 := Aside0.mk A50
  clear A50
  obtain rfl := Option.some.inj H
  go_enter Try.func35, Try.ntmps35
  go_wp2_with (first | ((with_reducible refine gate_callee (f := 57) rfl ?_); refine goesL_ (some 9) rfl rfl Try.func57 (by kernel_rfl) rfl #[.string a1, .string (⟨#[10]⟩ : ByteArray)] rfl (by (try simp only [List.map_toArray, List.map_cons, List.map_nil]); first | done | rfl | (simp only [List.length_drop, List.length_take]; rfl)) ?_; (with_reducible refine (text_zzSplit.calls k a1 (⟨#[10]⟩ : ByteArray) t128 _ A4.out).mono ?_); rintro e w6 ⟨v129, rfl, ho0, hb⟩; refine ⟨_, rfl, ?_⟩; have n0_ := Aside0.mk (Kd.R_lower ho0 (below_size (by repeat (first | (with_reducible first | exact HB.out | apply below_alloc | apply pw_below_drewN | apply below_drew1) | exact HB.out)))); have n1_ := Aside0.mk (below_step (by repeat (first | (with_reducible first | exact HB.out | apply below_alloc | apply pw_below_drewN | apply below_drew1) | exact HB.out)) hb); clear HB; have HO130 := n0_; have HB := n1_; clear n0_ n1_; (try clear hb); (try clear hb2); (try clear hk); (try clear hi); (try clear ho0); obtain ⟨Ao7, co7, eo7⟩ := Kd.R_slice HO130.out; subst eo7) | ((with_reducible refine gate_callee (f := 36) rfl ?_); refine goesL_ (some 11) rfl rfl Try.func36 (by kernel_rfl) rfl #[.int .i64 a0, .slice Ao7 t128.length co7, .int .i64 a2] rfl (by (try simp only [List.map_toArray, List.map_cons, List.map_nil]); first | done | rfl | (simp only [List.length_drop, List.length_take]; rfl)) ?_; (with_reducible refine (text_VAlign_Apply.calls k a0 (fun k_ => some k_ = (.slice Ao7 t128.length co7 : Value).ownBlock) (.slice Ao7 t128.length co7) t128 a2 t131 w _ ?side1 ?side2 A5.out).mono ?_); (case side1 => repeat (first | (with_reducible first | exact HB.out | apply below_alloc | apply pw_below_drewN | apply below_drew1) | exact HB.out)); (case side2 => exact Kd.R_tight rfl HO130.out); rintro e w8 ⟨v132, rfl, ho0, hb, hkp⟩; refine ⟨_, rfl, ?_⟩; have n0_ := Aside0.mk (Kd.R_mono (ok' := fun k_ => True) ho0 (fun k_ hk_ => trivial)); have n1_ := Aside0.mk (hb); clear HB; clear HO130; have HO133 := n0_; have HB := n1_; clear n0_ n1_; (try clear hb); (try clear hkp); (try clear ho0)))
  go_ret
  exact ⟨_, by first | rfl | (simp [errW_none, errW_some] <;> rfl) | (simp [*, errW_none, errW_some] <;> rfl), by (with_reducible repeat (first | apply Kd.R_alloc | apply Kd.R_drewN | apply Kd.R_drew)); exact HO133.out, by repeat (first | (with_reducible first | exact HB.out | apply below_alloc | apply pw_below_drewN | apply below_drew1) | exact HB.out)⟩

/-! ### impl_TextVAlignText: function 18 -/
def impl_TextVAlignText.f (k : Nat) (a0 : Int) (a1 : ByteArray) (a2 : Int) : Option (List ByteArray) := (text_VAlign_ApplyStr.f k a0 a1 a2).bind fun t134 => (some t134)
theorem impl_TextVAlignText.mono : ∀ a0 a1 a2 k, LeO (impl_TextVAlignText.f k a0 a1 a2) (impl_TextVAlignText.f (k + 1) a0 a1 a2) := by
  intro a0 a1 a2 k
  unfold impl_TextVAlignText.f
  repeat' first
      | (with_reducible exact text_VAlign_ApplyStr.mono _ _ _ _)
      | (with_reducible exact LeO.refl _)
      | (with_reducible exact LeO.none _)
      | (with_reducible refine LeO.ite ?_ ?_)
      | (with_reducible refine LeO.bind ?_ (fun _ => ?_))
      | exact text_VAlign_ApplyStr.mono _ _ _ _
      | exact LeO.none _
      | refine LeO.ite ?_ ?_
      | refine LeO.bind ?_ (fun _ => ?_)
set_option maxHeartbeats 8000000 in
set_option maxRecDepth 100000 in
theorem impl_TextVAlignText.calls (k : Nat) (a0 : Int) (a1 : ByteArray) (a2 : Int) (r : List ByteArray) (w : World) (h : impl_TextVAlignText.f k a0 a1 a2 = some r) :
    Calls Try.prog 18 #[.int .i64 a0, .string a1, .int .i64 a2] w fun e w' => ∃ v0_ : Value, e = .returned (v0_) ∧ Kd.R Kd.string 9 w' w.heap.size (fun _ => True) v0_ r ∧ Below w.heap.size w w' := by
  have HB := Aside0.mk (Below.refl w.heap.size w)
  have H : ((text_VAlign_ApplyStr.f k a0 a1 a2).bind fun t134 => (some t134)) = some r := h
  clear h
  replace H := Option.bind_eq_some_iff.mp H
  obtain ⟨t134, A40, H⟩ := H
  replace H : (some t134) = some r := H
  have A4 := Aside0.mk A40
  clear A40
  obtain rfl := Option.some.inj H
  go_enter Try.func18, Try.ntmps18
  go_wp2_with (first | ((with_reducible refine gate_callee (f := 35) rfl ?_); refine goesL_ (some 10) rfl rfl Try.func35 (by kernel_rfl) rfl #[.int .i64 a0, .string a1, .int .i64 a2] rfl (by (try simp only [List.map_toArray, List.map_cons, List.map_nil]); first | done | rfl | (simp only [List.length_drop, List.length_take]; rfl)) ?_; (with_reducible refine (text_VAlign_ApplyStr.calls k a0 a1 a2 t134 _ A4.out).mono ?_); rintro e w5 ⟨v135, rfl, ho0, hb⟩; refine ⟨_, rfl, ?_⟩; have n0_ := Aside0.mk (Kd.R_lower ho0 (below_size (by repeat (first | (with_reducible first | exact HB.out | apply below_alloc | apply pw_below_drewN | apply below_drew1) | exact HB.out)))); have n1_ := Aside0.mk (below_step (by repeat (first | (with_reducible first | exact HB.out | apply below_alloc | apply pw_below_drewN | apply below_drew1) | exact HB.out)) hb); clear HB; have HO136 := n0_; have HB := n1_; clear n0_ n1_; (try clear hb); (try clear hb2); (try clear hk); (try clear hi); (try clear ho0)))
  go_ret
  exact ⟨_, by first | rfl | (simp [errW_none, errW_some] <;> rfl) | (simp [*, errW_none, errW_some] <;> rfl), by (with_reducible repeat (first | apply Kd.R_alloc | apply Kd.R_drewN | apply Kd.R_drew)); exact HO136.out, by repeat (first | (with_reducible first | exact HB.out | apply below_alloc | apply pw_below_drewN | apply below_drew1) | exact HB.out)⟩

/-! ### spec_TxSameTexts: function 19 -/
def spec_TxSameTexts.l0 : Nat → List ByteArray → List ByteArray → Int → Int → Option (Bool)
  | 0, _, _, _, _ => none
  | k + 1, x0, x1, x12, x13 => if x13 < x12 then (if 0 ≤ x13 then (if x13 < (x0.length : Int) then (if x13 < (x1.length : Int) then (if (rdOf ByteArray.empty x0 x13).toList = (rdOf ByteArray.empty x1 x13).toList then (spec_TxSameTexts.l0 k x0 x1 x12 (wrap64 (x13 + 1))) else (some false)) else (none)) else (none)) else (none)) else (some true)
def spec_TxSameTexts.f (k : Nat) (l0 : List ByteArray) (l1 : List ByteArray) : Option (Bool) := if (l0.length : Int) = (l1.length : Int) then (spec_TxSameTexts.l0 k l0 l1 (l0.length : Int) 0) else (some false)
theorem spec_TxSameTexts.mono_l : ∀ k, (∀ y0 y1 y2 y3, LeO (spec_TxSameTexts.l0 k y0 y1 y2 y3) (spec_TxSameTexts.l0 (k + 1) y0 y1 y2 y3))
  | 0 => fun _ _ _ _ r h => by simp [spec_TxSameTexts.l0] at h
  | k + 1 => by
    have ih0 := spec_TxSameTexts.mono_l k
    · intro y0 y1 y2 y3
      unfold spec_TxSameTexts.l0
      repeat' first
      | (with_reducible exact ih0 _ _ _ _)
      | (with_reducible exact LeO.refl _)
      | (with_reducible exact LeO.none _)
      | (with_reducible refine LeO.ite ?_ ?_)
      | (with_reducible refine LeO.bind ?_ (fun _ => ?_))
      | exact ih0 _ _ _ _
      | exact LeO.none _
      | refine LeO.ite ?_ ?_
      | refine LeO.bind ?_ (fun _ => ?_)
theorem spec_TxSameTexts.mono : ∀ a0 a1 k, LeO (spec_TxSameTexts.f k a0 a1) (spec_TxSameTexts.f (k + 1) a0 a1) := by
  intro a0 a1 k
  have ih0 := spec_TxSameTexts.mono_l k
  unfold spec_TxSameTexts.f
  repeat' first
      | (with_reducible exact ih0 _ _ _ _)
      | (with_reducible exact LeO.refl _)
      | (with_reducible exact LeO.none _)
      | (with_reducible refine LeO.ite ?_ ?_)
      | (with_reducible refine LeO.bind ?_ (fun _ => ?_))
      | exact ih0 _ _ _ _
      | exact LeO.none _
      | refine LeO.ite ?_ ?_
      | refine LeO.bind ?_ (fun _ => ?_)
set_option maxHeartbeats 8000000 in
set_option maxRecDepth 100000 in
theorem spec_TxSameTexts.calls (k : Nat) (A0 : Option Addr) (c0 : Nat) (l0 : List ByteArray) (A1 : Option Addr) (c1 : Nat) (l1 : List ByteArray) (r : Bool) (w : World) (hr0 : Kd.C Kd.string w A0 l0.length l0) (hc0 : l0.length ≤ c0) (hr1 : Kd.C Kd.string w A1 l1.length l1) (hc1 : l1.length ≤ c1) (h : spec_TxSameTexts.f k l0 l1 = some r) :
    Calls Try.prog 19 #[.slice A0 l0.length c0, .slice A1 l1.length c1] w fun e w' => e = .returned (.bool r) ∧ Drawn0 w w' := by
  have HR0 := Aside0.mk hr0
  have HC0 := Aside0.mk hc0
  clear hr0 hc0
  have HR1 := Aside0.mk hr1
  have HC1 := Aside0.mk hc1
  clear hr1 hc1
  have H : (if (l0.length : Int) = (l1.length : Int) then (spec_TxSameTexts.l0 k l0 l1 (l0.length : Int) 0) else (some false)) = some r := h
  clear h
  by_cases c3 : (l0.length : Int) = (l1.length : Int)
  · rw [if_pos c3] at H
    have c3b0 : ((l0.length : Int) == (l1.length : Int)) = true := beq_iff_eq.mpr c3
    have c3b1 : ((l0.length : Int) != (l1.length : Int)) = false := bne_eq_false_iff_eq.mpr c3
    have c3b2 : (l0.length == l1.length) = true := by first | simpa using c3 | (simp at c3 ⊢; omega)
    clear c3
    have H' := Aside0.mk H
    clear H
    go_enter Try.func19, Try.ntmps19
    go_wp2
    repeat (go_quiet (fail); try go_wp2)
    go_loopg [13] k (fun kq v13 w' => ∃ (x13_1 : Int), v13 = .int .i64 x13_1 ∧ Aside0 (spec_TxSameTexts.l0 kq l0 l1 (l0.length : Int) x13_1 = some r) ∧ Aside0 (kq ≤ k) ∧ Drawn0 w w')
    case atStart => exact ⟨(0), (by first | rfl | (simp; done) | (simp [*]; done)), H', ⟨Nat.le_refl _⟩, by repeat (first | exact Drawn0.refl _ | apply Drawn0.step)⟩
    case round =>
      clear H'
      try clear c1
      try clear p2
      try clear c3
      try clear c3b0
      try clear c3b1
      try clear c3b2
      obtain ⟨x13_1, rfl, HA, HK1, ⟨m1, rfl⟩⟩ := hrel
      cases gk with
      | zero => exact absurd HA.out (by simp [spec_TxSameTexts.l0])
      | succ k1 =>
        have H := HA.out
        clear HA
        simp only [spec_TxSameTexts.l0] at H
        by_cases c4 : x13_1 < (l0.length : Int)
        · rw [if_pos c4] at H
          have c4b0 : decide (x13_1 < (l0.length : Int)) = true := decide_eq_true c4
          clear c4
          by_cases c5 : 0 ≤ x13_1
          · rw [if_pos c5] at H
            have c5b0 : decide (0 ≤ x13_1) = true := decide_eq_true c5
            clear c5
            by_cases c6 : x13_1 < (l0.length : Int)
            · rw [if_pos c6] at H
              have c6b0 : decide (x13_1 < (l0.length : Int)) = true := decide_eq_true c6
              clear c6
              by_cases c7 : x13_1 < (l1.length : Int)
              · rw [if_pos c7] at H
                have c7b0 : decide (x13_1 < (l1.length : Int)) = true := decide_eq_true c7
                clear c7
                by_cases c8 : (rdOf ByteArray.empty l0 x13_1).toList = (rdOf ByteArray.empty l1 x13_1).toList
                · rw [if_pos c8] at H
                  have c8b0 : ((rdOf ByteArray.empty l0 x13_1).toList == (rdOf ByteArray.empty l1 x13_1).toList) = true := beq_iff_eq.mpr c8
                  have c8b1 : ((rdOf ByteArray.empty l0 x13_1).toList != (rdOf ByteArray.empty l1 x13_1).toList) = false := bne_eq_false_iff_eq.mpr c8
                  clear c8
                  have H' := Aside0.mk H
                  clear H
                  have p137 : 0 ≤ (x13_1 : Int) := of_decide_eq_true (by first | (with_reducible assumption) | assumption)
                  have q137 : x13_1 < (l0.length : Int) := of_decide_eq_true (by first | (with_reducible assumption) | assumption)
                  obtain ⟨ad137, e137, hx137_0⟩ := Kd.at_string HR0.out x13_1 p137 q137
                  cases e137
                  replace p137 := eq_true p137
                  replace q137 := eq_true q137
                  have p138 : 0 ≤ (x13_1 : Int) := of_decide_eq_true (by first | (with_reducible assumption) | assumption)
                  have q138 : x13_1 < (l1.length : Int) := of_decide_eq_true (by first | (with_reducible assumption) | assumption)
                  obtain ⟨ad138, e138, hx138_0⟩ := Kd.at_string HR1.out x13_1 p138 q138
                  cases e138
                  replace p138 := eq_true p138
                  replace q138 := eq_true q138
                  go_wp2
                  repeat (go_quiet (fail); try go_wp2)
                  go_roundg k1
                  case measure => have := HK1.out; omega
                  case rel => exact ⟨(wrap64 (x13_1 + 1)), (by first | rfl | (simp; done) | (simp [*]; done)), H', ⟨by have := HK1.out; omega⟩, by repeat (first | exact Drawn0.refl _ | apply Drawn0.step)⟩
                · rw [if_neg c8] at H
                  have c8b0 : ((rdOf ByteArray.empty l0 x13_1).toList == (rdOf ByteArray.empty l1 x13_1).toList) = false := beq_eq_false_iff_ne.mpr c8
                  have c8b1 : ((rdOf ByteArray.empty l0 x13_1).toList != (rdOf ByteArray.empty l1 x13_1).toList) = true := bne_iff_ne.mpr c8
                  obtain rfl := Option.some.inj H
                  have p137 : 0 ≤ (x13_1 : Int) := of_decide_eq_true (by first | (with_reducible assumption) | assumption)
                  have q137 : x13_1 < (l0.length : Int) := of_decide_eq_true (by first | (with_reducible assumption) | assumption)
                  obtain ⟨ad137, e137, hx137_0⟩ := Kd.at_string HR0.out x13_1 p137 q137
                  cases e137
                  replace p137 := eq_true p137
                  replace q137 := eq_true q137
                  have p138 : 0 ≤ (x13_1 : Int) := of_decide_eq_true (by first | (with_reducible assumption) | assumption)
                  have q138 : x13_1 < (l1.length : Int) := of_decide_eq_true (by first | (with_reducible assumption) | assumption)
                  obtain ⟨ad138, e138, hx138_0⟩ := Kd.at_string HR1.out x13_1 p138 q138
                  cases e138
                  replace p138 := eq_true p138
                  replace q138 := eq_true q138
                  go_wp2
                  repeat (go_quiet (fail); try go_wp2)
                  go_ret
                  exact ⟨by first | rfl | (simp; done) | (simp [*]; done), by repeat (first | exact Drawn0.refl _ | apply Drawn0.step)⟩
              · rw [if_neg c7] at H
                exact absurd H (by simp)
            · rw [if_neg c6] at H
              exact absurd H (by simp)
          · rw [if_neg c5] at H
            exact absurd H (by simp)
        · rw [if_neg c4] at H
          have c4b0 : decide (x13_1 < (l0.length : Int)) = false := decide_eq_false c4
          clear c4
          obtain rfl := Option.some.inj H
          go_wp2
          repeat (go_quiet (fail); try go_wp2)
          go_ret
          exact ⟨by first | rfl | (simp; done) | (simp [*]; done), by repeat (first | exact Drawn0.refl _ | apply Drawn0.step)⟩
  · rw [if_neg c3] at H
    have c3b0 : ((l0.length : Int) == (l1.length : Int)) = false := beq_eq_false_iff_ne.mpr c3
    have c3b1 : ((l0.length : Int) != (l1.length : Int)) = true := bne_iff_ne.mpr c3
    have c3b2 : (l0.length == l1.length) = false := by first | simpa using c3 | (simp at c3 ⊢; omega)
    obtain rfl := Option.some.inj H
    go_enter Try.func19, Try.ntmps19
    go_wp2
    repeat (go_quiet (fail); try go_wp2)
    go_ret
    exact ⟨by first | rfl | (simp; done) | (simp [*]; done), by repeat (first | exact Drawn0.refl _ | apply Drawn0.step)⟩

/-! ### impl_TextVAlign: function 20 -/
def impl_TextVAlign.f (k : Nat) (a0 : Int) (l1 : List ByteArray) (a2 : Int) : Option (List ByteArray) := (some (([] : List ByteArray) : List ByteArray)).bind fun y139 => (if y139.length + l1.length < 8796093022208 then ((text_VAlign_Apply.f k a0 (y139 ++ l1) a2).bind fun t145 => (some t145)) else (none))
theorem impl_TextVAlign.mono : ∀ a0 a1 a2 k, LeO (impl_TextVAlign.f k a0 a1 a2) (impl_TextVAlign.f (k + 1) a0 a1 a2) := by
  intro a0 a1 a2 k
  unfold impl_TextVAlign.f
  repeat' first
      | (with_reducible exact text_VAlign_Apply.mono _ _ _ _)
      | (with_reducible exact LeO.refl _)
      | (with_reducible exact LeO.none _)
      | (with_reducible refine LeO.ite ?_ ?_)
      | (with_reducible refine LeO.bind ?_ (fun _ => ?_))
      | exact text_VAlign_Apply.mono _ _ _ _
      | exact LeO.none _
      | refine LeO.ite ?_ ?_
      | refine LeO.bind ?_ (fun _ => ?_)
set_option maxHeartbeats 8000000 in
set_option maxRecDepth 100000 in
theorem impl_TextVAlign.calls (k : Nat) (a0 : Int) (A1 : Option Addr) (c1 : Nat) (l1 : List ByteArray) (a2 : Int) (r : List ByteArray) (w : World) (hr1 : Kd.C Kd.string w A1 l1.length l1) (hc1 : l1.length ≤ c1) (h : impl_TextVAlign.f k a0 l1 a2 = some r) :
    Calls Try.prog 20 #[.int .i64 a0, .slice A1 l1.length c1, .int .i64 a2] w fun e w' => ∃ v0_ : Value, e = .returned (v0_) ∧ Kd.R Kd.string 9 w' w.heap.size (fun _ => True) v0_ r ∧ Below w.heap.size w w' := by
  have HR1 := Aside0.mk hr1
  have HC1 := Aside0.mk hc1
  clear hr1 hc1
  have HB := Aside0.mk (Below.refl w.heap.size w)
  have H : ((some (([] : List ByteArray) : List ByteArray)).bind fun y139 => (if y139.length + l1.length < 8796093022208 then ((text_VAlign_Apply.f k a0 (y139 ++ l1) a2).bind fun t145 => (some t145)) else (none))) = some r := h
  clear h
  obtain ⟨y139, hy139⟩ : ∃ y_ : List ByteArray, y_ = (([] : List ByteArray)) := ⟨_, rfl⟩
  replace H : (if y139.length + l1.length < 8796093022208 then ((text_VAlign_Apply.f k a0 (y139 ++ l1) a2).bind fun t145 => (some t145)) else (none)) = some r := by first | (rw [hy139]; with_reducible exact H) | (have H2_ := (Option.bind_some _ _).symm.trans H; rw [hy139]; with_reducible exact H2_) | (have H2_ := (Option.bind_some _ _).symm.trans H; with_reducible exact H2_) | with_reducible exact H | (rw [hy139]; exact H) | exact H
  have Ny139 := Aside0.mk hy139
  clear hy139
  by_cases c4 : y139.length + l1.length < 8796093022208
  · rw [if_pos c4] at H
    have LMc4 := Aside0.mk c4
    clear c4
    obtain ⟨y142, hy142⟩ : ∃ y_ : List ByteArray, y_ = (y139 ++ l1) := ⟨_, rfl⟩
    replace H : ((text_VAlign_Apply.f k a0 y142 a2).bind fun t145 => (some t145)) = some r := by first | (rw [hy142]; with_reducible exact H) | (have H2_ := (Option.bind_some _ _).symm.trans H; rw [hy142]; with_reducible exact H2_) | (have H2_ := (Option.bind_some _ _).symm.trans H; with_reducible exact H2_) | with_reducible exact H | (rw [hy142]; exact H) | exact H
    have Ny142 := Aside0.mk hy142
    clear hy142
    replace H := Option.bind_eq_some_iff.mp H
    obtain ⟨t145, A50, H⟩ := H
    replace H : (some t145) = some r := H
    have A5 := Aside0.mk A50
    clear A50
    obtain rfl := Option.some.inj H
    go_enter Try.func20, Try.ntmps20
    go_wp2_with (first | ((with_reducible refine gate_dst (N := 8) rfl ?_); refine Kd.R_lit Kd.string _ 9 ?hg (N := 8) ?hd (xs := ([] : List ByteArray)) (inner := []) (ok := fun _ => True) (okp := fun _ => True) ?hr ?hp (fun _ hk => hk) trivial (Below.refl _ _) (Nat.le_refl _) (by simp) ?_; (case hd => rfl); (case hg => rfl); (case hr => first | (go_simp; done) | (go_simp; rfl)); (case hp => exact (Reps.none _ _)); intro v140 w6 ho7 hb hg_ hnew_; clear hg_ hnew_; (first | rw [← Ny139.out] at ho7 | (simp only [Int.reduceToNat] at ho7; rw [← Ny139.out] at ho7)); have n0_ := Aside0.mk (Kd.R_lower ho7 (below_size (by repeat (first | (with_reducible first | exact HB.out | apply below_alloc | apply pw_below_drewN | apply below_drew1) | exact HB.out)))); have n1_ := Aside0.mk (below_step (by repeat (first | (with_reducible first | exact HB.out | apply below_alloc | apply pw_below_drewN | apply below_drew1) | exact HB.out)) hb); clear HB; have HO141 := n0_; have HB := n1_; clear n0_ n1_; clear hb ho7) | ((with_reducible refine gate_builtin (b := .append) (xs := #[.tmp 8, .tmp 9]) rfl ?_); at_builtin; refine Kd.R_append_rows Kd.string (w0 := w) w.heap.size rfl (.tmp 8) (.tmp 9) 34 9 (.string ⟨#[]⟩) 16 rfl Try.underlying34 info9 rfl (by decide) (by omega) v140 y139 l1 _ _ _ (fun _ => True) (fun _ => False) rfl rfl ?aO ?aR (fun _ _ h => h) (fun _ h => h.elim) ?aF ?aB ?aS ?aL ?_; (case aR => repeat (first | exact (Kd.C_below HR1.out HB.out) | (with_reducible refine Kd.C_alloc ?_ _) | (with_reducible refine Kd.C_drewN ?_ _) | (with_reducible refine Kd.C_drew ?_))); (case aB => exact (by repeat (first | (with_reducible first | exact HB.out | apply below_alloc | apply pw_below_drewN | apply below_drew1) | exact HB.out))); (case aF => exact (fun _ _ => trivial)); (case aO => exact (by (with_reducible repeat (first | apply Kd.R_alloc | apply Kd.R_drewN | apply Kd.R_drew)); exact HO141.out)); (case aS => exact (below_size (by repeat (first | (with_reducible first | exact HB.out | apply below_alloc | apply pw_below_drewN | apply below_drew1) | exact HB.out)))); (case aL => have := LMc4.out; omega); intro v143 w8 ho hb hg hat; rw [← Ny142.out] at ho; have n0_ := Aside0.mk (hb); have n1_ := Aside0.mk (ho); clear HB; clear HO141; have HB := n0_; have HO144 := n1_; clear n0_ n1_; clear ho hb hg hat; obtain ⟨Ao9, co9, eo9⟩ := Kd.R_slice HO144.out; subst eo9) | ((with_reducible refine gate_callee (f := 36) rfl ?_); refine goesL_ (some 12) rfl rfl Try.func36 (by kernel_rfl) rfl #[.int .i64 a0, .slice Ao9 y142.length co9, .int .i64 a2] rfl (by (try simp only [List.map_toArray, List.map_cons, List.map_nil]); first | done | rfl | (simp only [List.length_drop, List.length_take]; rfl)) ?_; (with_reducible refine (text_VAlign_Apply.calls k a0 (fun k_ => some k_ = (.slice Ao9 y142.length co9 : Value).ownBlock) (.slice Ao9 y142.length co9) y142 a2 t145 w _ ?side1 ?side2 A5.out).mono ?_); (case side1 => repeat (first | (with_reducible first | exact HB.out | apply below_alloc | apply pw_below_drewN | apply below_drew1) | exact HB.out)); (case side2 => exact Kd.R_tight rfl HO144.out); rintro e w10 ⟨v146, rfl, ho0, hb, hkp⟩; refine ⟨_, rfl, ?_⟩; have n0_ := Aside0.mk (Kd.R_mono (ok' := fun k_ => True) ho0 (fun k_ hk_ => trivial)); have n1_ := Aside0.mk (hb); clear HB; clear HO144; have HO147 := n0_; have HB := n1_; clear n0_ n1_; (try clear hb); (try clear hkp); (try clear ho0)))
    go_ret
    exact ⟨_, by first | rfl | (simp [errW_none, errW_some] <;> rfl) | (simp [*, errW_none, errW_some] <;> rfl), by (with_reducible repeat (first | apply Kd.R_alloc | apply Kd.R_drewN | apply Kd.R_drew)); exact HO147.out, by repeat (first | (with_reducible first | exact HB.out | apply below_alloc | apply pw_below_drewN | apply below_drew1) | exact HB.out)⟩
  · rw [if_neg c4] at H
    exact absurd H (by simp)

/-! ### laws_FnTextVAlignText: function 6 -/
mutual
def laws_FnTextVAlignText.j0 : Nat → Int → List ByteArray → Int → Bool → Option (Bool)
  | 0, _, _, _, _ => none
  | k + 1, x0, x1, x2, x26 => if x26 = true then (some true) else (laws_FnTextVAlignText.l0 k x0 x1 x2 (⟨#[]⟩ : ByteArray) x1 (x1.length : Int) 0)
def laws_FnTextVAlignText.l0 : Nat → Int → List ByteArray → Int → ByteArray → List ByteArray → Int → Int → Option (Bool)
  | 0, _, _, _, _, _, _, _ => none
  | k + 1, x0, x1, x2, x7, x27, x28, x29 => if x29 < x28 then (if 0 ≤ x29 then (if x29 < (x27.length : Int) then (if ((rdOf ByteArray.empty x27 x29).size : Int) > 300 then (laws_FnTextVAlignText.j2 k x0 x1 x2 x7 x29 (rdOf ByteArray.empty x27 x29) x27 x28 x29 true) else ((spec_TxSimple.f k (rdOf ByteArray.empty x27 x29) false).bind fun t157 => (laws_FnTextVAlignText.j2 k x0 x1 x2 x7 x29 (rdOf ByteArray.empty x27 x29) x27 x28 x29 (!t157)))) else (none)) else (none)) else ((impl_TextVAlignText.f k (wrap64 (Int.tmod x0 4)) x7 x2).bind fun t149 => ((impl_TextVAlign.f k (wrap64 (Int.tmod x0 4)) x1 x2).bind fun t152 => ((spec_TxSameTexts.f k t149 t152).bind fun t155 => (if t155 = true then (some ((t149.length : Int) == x2)) else (some false)))))
def laws_FnTextVAlignText.j2 : Nat → Int → List ByteArray → Int → ByteArray → Int → ByteArray → List ByteArray → Int → Int → Bool → Option (Bool)
  | 0, _, _, _, _, _, _, _, _, _, _ => none
  | k + 1, x0, x1, x2, x7, x8, x9, x27, x28, x29, x41 => if x41 = true then (some true) else (if x8 > 0 then (if x7.size + 1 ≤ 9223372036854775807 then (if (x7 ++ (⟨#[10]⟩ : ByteArray)).size + x9.size ≤ 9223372036854775807 then (laws_FnTextVAlignText.l0 k x0 x1 x2 ((x7 ++ (⟨#[10]⟩ : ByteArray)) ++ x9) x27 x28 (wrap64 (x29 + 1))) else (none)) else (none)) else (if x7.size + x9.size ≤ 9223372036854775807 then (laws_FnTextVAlignText.l0 k x0 x1 x2 (x7 ++ x9) x27 x28 (wrap64 (x29 + 1))) else (none)))
end
def laws_FnTextVAlignText.f (k : Nat) (a0 : Int) (l1 : List ByteArray) (a2 : Int) : Option (Bool) := (laws_zzFits4.f k l1).bind fun t148 => (if t148 = true then (if (l1.length : Int) = 0 then (laws_FnTextVAlignText.j0 k a0 l1 a2 true) else (if (l1.length : Int) > a2 then (laws_FnTextVAlignText.j0 k a0 l1 a2 true) else (laws_FnTextVAlignText.j0 k a0 l1 a2 (decide (a2 > 300))))) else (some true))
theorem laws_FnTextVAlignText.mono_l : ∀ k, (∀ y0 y1 y2 y3, LeO (laws_FnTextVAlignText.j0 k y0 y1 y2 y3) (laws_FnTextVAlignText.j0 (k + 1) y0 y1 y2 y3)) ∧ (∀ y0 y1 y2 y3 y4 y5 y6, LeO (laws_FnTextVAlignText.l0 k y0 y1 y2 y3 y4 y5 y6) (laws_FnTextVAlignText.l0 (k + 1) y0 y1 y2 y3 y4 y5 y6)) ∧ (∀ y0 y1 y2 y3 y4 y5 y6 y7 y8 y9, LeO (laws_FnTextVAlignText.j2 k y0 y1 y2 y3 y4 y5 y6 y7 y8 y9) (laws_FnTextVAlignText.j2 (k + 1) y0 y1 y2 y3 y4 y5 y6 y7 y8 y9))
  | 0 => ⟨fun _ _ _ _ r h => by simp [laws_FnTextVAlignText.j0] at h, fun _ _ _ _ _ _ _ r h => by simp [laws_FnTextVAlignText.l0] at h, fun _ _ _ _ _ _ _ _ _ _ r h => by simp [laws_FnTextVAlignText.j2] at h⟩
  | k + 1 => by
    obtain ⟨ih0, ih1, ih2⟩ := laws_FnTextVAlignText.mono_l k
    refine ⟨?_, ?_, ?_⟩
    · intro y0 y1 y2 y3
      unfold laws_FnTextVAlignText.j0
      repeat' first
      | (with_reducible exact ih0 _ _ _ _)
      | (with_reducible exact ih1 _ _ _ _ _ _ _)
      | (with_reducible exact ih2 _ _ _ _ _ _ _ _ _ _)
      | (with_reducible exact impl_TextVAlign.mono _ _ _ _)
      | (with_reducible exact impl_TextVAlignText.mono _ _ _ _)
      | (with_reducible exact laws_zzFits4.mono _ _)
      | (with_reducible exact spec_TxSameTexts.mono _ _ _)
      | (with_reducible exact spec_TxSimple.mono _ _ _)
      | (with_reducible exact LeO.refl _)
      | (with_reducible exact LeO.none _)
      | (with_reducible refine LeO.ite ?_ ?_)
      | (with_reducible refine LeO.bind ?_ (fun _ => ?_))
      | exact ih0 _ _ _ _
      | exact ih1 _ _ _ _ _ _ _
      | exact ih2 _ _ _ _ _ _ _ _ _ _
      | exact impl_TextVAlign.mono _ _ _ _
      | exact impl_TextVAlignText.mono _ _ _ _
      | exact laws_zzFits4.mono _ _
      | exact spec_TxSameTexts.mono _ _ _
      | exact spec_TxSimple.mono _ _ _
      | exact LeO.none _
      | refine LeO.ite ?_ ?_
      | refine LeO.bind ?_ (fun _ => ?_)
    · intro y0 y1 y2 y3 y4 y5 y6
      unfold laws_FnTextVAlignText.l0
      repeat' first
      | (with_reducible exact ih0 _ _ _ _)
      | (with_reducible exact ih1 _ _ _ _ _ _ _)
      | (with_reducible exact ih2 _ _ _ _ _ _ _ _ _ _)
      | (with_reducible exact impl_TextVAlign.mono _ _ _ _)
      | (with_reducible exact impl_TextVAlignText.mono _ _ _ _)
      | (with_reducible exact laws_zzFits4.mono _ _)
      | (with_reducible exact spec_TxSameTexts.mono _ _ _)
      | (with_reducible exact spec_TxSimple.mono _ _ _)
      | (with_reducible exact LeO.refl _)
      | (with_reducible exact LeO.none _)
      | (with_reducible refine LeO.ite ?_ ?_)
      | (with_reducible refine LeO.bind ?_ (fun _ => ?_))
      | exact ih0 _ _ _ _
      | exact ih1 _ _ _ _ _ _ _
      | exact ih2 _ _ _ _ _ _ _ _ _ _
      | exact impl_TextVAlign.mono _ _ _ _
      | exact impl_TextVAlignText.mono _ _ _ _
      | exact laws_zzFits4.mono _ _
      | exact spec_TxSameTexts.mono _ _ _
      | exact spec_TxSimple.mono _ _ _
      | exact LeO.none _
      | refine LeO.ite ?_ ?_
      | refine LeO.bind ?_ (fun _ => ?_)
    · intro y0 y1 y2 y3 y4 y5 y6 y7 y8 y9
      unfold laws_FnTextVAlignText.j2
      repeat' first
      | (with_reducible exact ih0 _ _ _ _)
      | (with_reducible exact ih1 _ _ _ _ _ _ _)
      | (with_reducible exact ih2 _ _ _ _ _ _ _ _ _ _)
      | (with_reducible exact impl_TextVAlign.mono _ _ _ _)
      | (with_reducible exact impl_TextVAlignText.mono _ _ _ _)
      | (with_reducible exact laws_zzFits4.mono _ _)
      | (with_reducible exact spec_TxSameTexts.mono _ _ _)
      | (with_reducible exact spec_TxSimple.mono _ _ _)
      | (with_reducible exact LeO.refl _)
      | (with_reducible exact LeO.none _)
      | (with_reducible refine LeO.ite ?_ ?_)
      | (with_reducible refine LeO.bind ?_ (fun _ => ?_))
      | exact ih0 _ _ _ _
      | exact ih1 _ _ _ _ _ _ _
      | exact ih2 _ _ _ _ _ _ _ _ _ _
      | exact impl_TextVAlign.mono _ _ _ _
      | exact impl_TextVAlignText.mono _ _ _ _
      | exact laws_zzFits4.mono _ _
      | exact spec_TxSameTexts.mono _ _ _
      | exact spec_TxSimple.mono _ _ _
      | exact LeO.none _
      | refine LeO.ite ?_ ?_
      | refine LeO.bind ?_ (fun _ => ?_)
theorem laws_FnTextVAlignText.mono : ∀ a0 a1 a2 k, LeO (laws_FnTextVAlignText.f k a0 a1 a2) (laws_FnTextVAlignText.f (k + 1) a0 a1 a2) := by
  intro a0 a1 a2 k
  obtain ⟨ih0, ih1, ih2⟩ := laws_FnTextVAlignText.mono_l k
  unfold laws_FnTextVAlignText.f
  repeat' first
      | (with_reducible exact ih0 _ _ _ _)
      | (with_reducible exact ih1 _ _ _ _ _ _ _)
      | (with_reducible exact ih2 _ _ _ _ _ _ _ _ _ _)
      | (with_reducible exact impl_TextVAlign.mono _ _ _ _)
      | (with_reducible exact impl_TextVAlignText.mono _ _ _ _)
      | (with_reducible exact laws_zzFits4.mono _ _)
      | (with_reducible exact spec_TxSameTexts.mono _ _ _)
      | (with_reducible exact spec_TxSimple.mono _ _ _)
      | (with_reducible exact LeO.refl _)
      | (with_reducible exact LeO.none _)
      | (with_reducible refine LeO.ite ?_ ?_)
      | (with_reducible refine LeO.bind ?_ (fun _ => ?_))
      | exact ih0 _ _ _ _
      | exact ih1 _ _ _ _ _ _ _
      | exact ih2 _ _ _ _ _ _ _ _ _ _
      | exact impl_TextVAlign.mono _ _ _ _
      | exact impl_TextVAlignText.mono _ _ _ _
      | exact laws_zzFits4.mono _ _
      | exact spec_TxSameTexts.mono _ _ _
      | exact spec_TxSimple.mono _ _ _
      | exact LeO.none _
      | refine LeO.ite ?_ ?_
      | refine LeO.bind ?_ (fun _ => ?_)
set_option maxHeartbeats 8000000 in
set_option maxRecDepth 100000 in
theorem laws_FnTextVAlignText.calls (k : Nat) (a0 : Int) (A1 : Option Addr) (c1 : Nat) (l1 : List ByteArray) (a2 : Int) (r : Bool) (w : World) (hr1 : Kd.C Kd.string w A1 l1.length l1) (hc1 : l1.length ≤ c1) (h : laws_FnTextVAlignText.f k a0 l1 a2 = some r) :
    Calls Try.prog 6 #[.int .u8 a0, .slice A1 l1.length c1, .int .i64 a2] w fun e w' => e = .returned (.bool r) ∧ Below w.heap.size w w' := by
  have HR1 := Aside0.mk hr1
  have HC1 := Aside0.mk hc1
  clear hr1 hc1
  have HB := Aside0.mk (Below.refl w.heap.size w)
  have H : ((laws_zzFits4.f k l1).bind fun t148 => (if t148 = true then (if (l1.length : Int) = 0 then (laws_FnTextVAlignText.j0 k a0 l1 a2 true) else (if (l1.length : Int) > a2 then (laws_FnTextVAlignText.j0 k a0 l1 a2 true) else (laws_FnTextVAlignText.j0 k a0 l1 a2 (decide (a2 > 300))))) else (some true))) = some r := h
  clear h
  replace H := Option.bind_eq_some_iff.mp H
  obtain ⟨t148, A40, H⟩ := H
  replace H : (if t148 = true then (if (l1.length : Int) = 0 then (laws_FnTextVAlignText.j0 k a0 l1 a2 true) else (if (l1.length : Int) > a2 then (laws_FnTextVAlignText.j0 k a0 l1 a2 true) else (laws_FnTextVAlignText.j0 k a0 l1 a2 (decide (a2 > 300))))) else (some true)) = some r := H
  have A4 := Aside0.mk A40
  clear A40
  by_cases c5 : t148 = true
  · subst c5
    have H1 : (if (l1.length : Int) = 0 then (laws_FnTextVAlignText.j0 k a0 l1 a2 true) else (if (l1.length : Int) > a2 then (laws_FnTextVAlignText.j0 k a0 l1 a2 true) else (laws_FnTextVAlignText.j0 k a0 l1 a2 (decide (a2 > 300))))) = some r := by rw [if_pos rfl] at H; exact H
    clear H
    have H := H1
    clear H1
    have HC6 := Aside0.mk H
    clear H
    go_enter Try.func6, Try.ntmps6
    go_upto_region 3 with (first | ((with_reducible refine gate_callee (f := 13) rfl ?_); refine goesL_ (some 12) rfl rfl Try.func13 (by kernel_rfl) rfl #[.slice A1 l1.length c1] rfl (by (try simp only [List.map_toArray, List.map_cons, List.map_nil]); first | done | rfl | (simp only [List.length_drop, List.length_take]; rfl)) ?_; (with_reducible refine (laws_zzFits4.calls k _ _ l1 true _ ?side1 ?side2 A4.out).mono ?_); (case side1 => repeat (first | exact HR1.out | (with_reducible refine Kd.C_alloc ?_ _) | (with_reducible refine Kd.C_drewN ?_ _) | (with_reducible refine Kd.C_drew ?_))); (case side2 => exact HC1.out); rintro e w' ⟨rfl, ⟨nd, rfl⟩⟩; refine ⟨_, rfl, ?_⟩))
    (try simp only [Act.put, List.setIfInBounds_toArray, List.set_cons_zero, List.set_cons_succ])
    go_cut [26] (fun v26 wc => ∃ (kq : Nat) (x26_5 : Bool), v26 = .bool x26_5 ∧ Aside0 (laws_FnTextVAlignText.j0 kq a0 l1 a2 x26_5 = some r) ∧ Aside0 (kq ≤ k) ∧ Aside0 (Below w.heap.size w wc))
    case first =>
      have H := HC6.out
      clear HC6
      by_cases c7 : (l1.length : Int) = 0
      · rw [if_pos c7] at H
        have c7b0 : ((l1.length : Int) == 0) = true := beq_iff_eq.mpr c7
        have c7b1 : ((l1.length : Int) != 0) = false := bne_eq_false_iff_eq.mpr c7
        clear c7
        (first | rw [c7b0] | (simp only [i64_w, i32_w]; rw [c7b0]) | skip)
        have H' := Aside0.mk H
        clear H
        go_wp2
        go_meet
        case rel => exact ⟨_, (true), (by first | rfl | (simp; done) | (simp [*]; done)), H', ⟨by first | omega | exact Nat.le_refl _⟩, ⟨by repeat (first | (with_reducible first | exact HB.out | apply below_alloc | apply pw_below_drewN | apply below_drew1) | exact HB.out)⟩⟩
      · rw [if_neg c7] at H
        have c7b0 : ((l1.length : Int) == 0) = false := beq_eq_false_iff_ne.mpr c7
        have c7b1 : ((l1.length : Int) != 0) = true := bne_iff_ne.mpr c7
        have c7b2 : ¬ (l1 = []) := fun h_ => c7 (by rw [h_]; rfl)
        (first | rw [c7b0] | (simp only [i64_w, i32_w]; rw [c7b0]) | skip)
        by_cases c8 : (l1.length : Int) > a2
        · rw [if_pos c8] at H
          have c8b0 : decide (a2 < (l1.length : Int)) = true := decide_eq_true c8
          clear c8
          have H' := Aside0.mk H
          clear H
          go_wp2
          go_meet
          case rel => exact ⟨_, (true), (by first | rfl | (simp; done) | (simp [*]; done)), H', ⟨by first | omega | exact Nat.le_refl _⟩, ⟨by repeat (first | (with_reducible first | exact HB.out | apply below_alloc | apply pw_below_drewN | apply below_drew1) | exact HB.out)⟩⟩
        · rw [if_neg c8] at H
          have c8b0 : decide (a2 < (l1.length : Int)) = false := decide_eq_false c8
          clear c8
          have H' := Aside0.mk H
          clear H
          go_wp2
          go_meet
          case rel => exact ⟨_, (decide (a2 > 300)), (by first | rfl | (simp; done) | (simp [*]; done)), H', ⟨by first | omega | exact Nat.le_refl _⟩, ⟨by repeat (first | (with_reducible first | exact HB.out | apply below_alloc | apply pw_below_drewN | apply below_drew1) | exact HB.out)⟩⟩
    case rest =>
      clear HC6
      try clear c1
      try clear p2
      try clear c5
      try clear c6
      try clear c7
      try clear c7b0
      try clear c7b1
      try clear c7b2
      try clear c8
      try clear c8b0
      obtain ⟨kq, x26_5, rfl, HA, HJ5, HB⟩ := hcut
      cases kq with
      | zero => exact absurd HA.out (by simp [laws_FnTextVAlignText.j0])
      | succ kj5 =>
        have H := HA.out
        clear HA
        simp only [laws_FnTextVAlignText.j0] at H
        by_cases c9 : x26_5 = true
        · subst c9
          have H1 : (some true) = some r := by rw [if_pos rfl] at H; exact H
          clear H
          have H := H1
          clear H1
          obtain rfl := Option.some.inj H
          go_wp2
          go_ret
          exact ⟨by first | rfl | (simp [errW_none, errW_some] <;> rfl) | (simp [*, errW_none, errW_some] <;> rfl), by repeat (first | (with_reducible first | exact HB.out | apply below_alloc | apply pw_below_drewN | apply below_drew1) | exact HB.out)⟩
        · replace c9 := Bool.eq_false_iff.mpr c9
          subst c9
          have H1 : (laws_FnTextVAlignText.l0 kj5 a0 l1 a2 (⟨#[]⟩ : ByteArray) l1 (l1.length : Int) 0) = some r := by rw [if_neg (show ¬ (false = true) by decide)] at H; exact H
          clear H
          have H := H1
          clear H1
          have H' := Aside0.mk H
          clear H
          go_wp2
          go_loopg [7, 29] kj5 (fun kq v7 v29 w' => ∃ (x7_2 : ByteArray) (x29_2 : Int), v7 = .string x7_2 ∧ v29 = .int .i64 x29_2 ∧ Aside0 (laws_FnTextVAlignText.l0 kq a0 l1 a2 x7_2 l1 (l1.length : Int) x29_2 = some r) ∧ Aside0 (kq ≤ kj5) ∧ Aside0 (Below w.heap.size w w'))
          case atStart => exact ⟨((⟨#[]⟩ : ByteArray)), (0), (by first | rfl | (simp; done) | (simp [*]; done)), (by first | rfl | (simp; done) | (simp [*]; done)), H', ⟨Nat.le_refl _⟩, ⟨by repeat (first | (with_reducible first | exact HB.out | apply below_alloc | apply pw_below_drewN | apply below_drew1) | exact HB.out)⟩⟩
          case round =>
            clear H'
            try clear c1
            try clear p2
            try clear c5
            try clear c6
            try clear c7
            try clear c7b0
            try clear c7b1
            try clear c7b2
            try clear c8
            try clear c8b0
            try clear c9
            try clear p2
            obtain ⟨x7_2, x29_2, rfl, rfl, HA, HK2, HB⟩ := hrel
            cases gk with
            | zero => exact absurd HA.out (by simp [laws_FnTextVAlignText.l0])
            | succ k2 =>
              have H := HA.out
              clear HA
              simp only [laws_FnTextVAlignText.l0] at H
              by_cases c10 : x29_2 < (l1.length : Int)
              · rw [if_pos c10] at H
                have c10b0 : decide (x29_2 < (l1.length : Int)) = true := decide_eq_true c10
                clear c10
                by_cases c11 : 0 ≤ x29_2
                · rw [if_pos c11] at H
                  have c11b0 : decide (0 ≤ x29_2) = true := decide_eq_true c11
                  clear c11
                  by_cases c12 : x29_2 < (l1.length : Int)
                  · rw [if_pos c12] at H
                    have c12b0 : decide (x29_2 < (l1.length : Int)) = true := decide_eq_true c12
                    clear c12
                    have HC13 := Aside0.mk H
                    clear H
                    have p156 : 0 ≤ (x29_2 : Int) := of_decide_eq_true (by first | (with_reducible assumption) | assumption)
                    have q156 : x29_2 < (l1.length : Int) := of_decide_eq_true (by first | (with_reducible assumption) | assumption)
                    obtain ⟨ad156, e156, hx156_0⟩ := Kd.at_string HR1.out x29_2 p156 q156
                    cases e156
                    replace hx156_0 := (HB.out.cell (World.block_lt_of_cell? w _ hx156_0)).trans hx156_0
                    replace p156 := eq_true p156
                    replace q156 := eq_true q156
                    go_upto_region 9 with (fail)
                    go_cut [41] (fun v41 wc => ∃ (kq : Nat) (x41_12 : Bool), v41 = .bool x41_12 ∧ Aside0 (laws_FnTextVAlignText.j2 kq a0 l1 a2 x7_2 x29_2 (rdOf ByteArray.empty l1 x29_2) l1 (l1.length : Int) x29_2 x41_12 = some r) ∧ Aside0 (kq ≤ k2) ∧ Aside0 (Below w.heap.size w wc))
                    case first =>
                      have H := HC13.out
                      clear HC13
                      by_cases c14 : ((rdOf ByteArray.empty l1 x29_2).size : Int) > 300
                      · rw [if_pos c14] at H
                        have c14b0 : decide (300 < ((rdOf ByteArray.empty l1 x29_2).size : Int)) = true := decide_eq_true c14
                        have c14b1 : decide (300 < (rdOf ByteArray.empty l1 x29_2).size) = true := decide_eq_true (by omega)
                        clear c14
                        (first | rw [c14b0] | (simp only [i64_w, i32_w]; rw [c14b0]) | skip)
                        have H' := Aside0.mk H
                        clear H
                        go_wp2
                        go_meet
                        case rel => exact ⟨_, (true), (by first | rfl | (simp; done) | (simp [*]; done)), H', ⟨by have := HJ5.out; have := HK2.out; first | omega | exact Nat.le_refl _⟩, ⟨by repeat (first | (with_reducible first | exact HB.out | apply below_alloc | apply pw_below_drewN | apply below_drew1) | exact HB.out)⟩⟩
                      · rw [if_neg c14] at H
                        have c14b0 : decide (300 < ((rdOf ByteArray.empty l1 x29_2).size : Int)) = false := decide_eq_false c14
                        have c14b1 : decide (300 < (rdOf ByteArray.empty l1 x29_2).size) = false := decide_eq_false (by omega)
                        clear c14
                        (first | rw [c14b0] | (simp only [i64_w, i32_w]; rw [c14b0]) | skip)
                        replace H := Option.bind_eq_some_iff.mp H
                        obtain ⟨t157, A150, H⟩ := H
                        replace H : (laws_FnTextVAlignText.j2 k2 a0 l1 a2 x7_2 x29_2 (rdOf ByteArray.empty l1 x29_2) l1 (l1.length : Int) x29_2 (!t157)) = some r := H
                        have A15 := Aside0.mk A150
                        clear A150
                        have H' := Aside0.mk H
                        clear H
                        go_wp2_with (first | (go_at_call 17; (with_reducible refine (spec_TxSimple.calls k2 (rdOf ByteArray.empty l1 x29_2) false t157 _ A15.out).mono ?_); rintro e w16 ⟨rfl, hb⟩; have n0_ := Aside0.mk (below_step (by repeat (first | (with_reducible first | exact HB.out | apply below_alloc | apply pw_below_drewN | apply below_drew1) | exact HB.out)) hb); clear HB; have HB := n0_; clear n0_; (try clear hb); (try clear hb2); (try clear hk); (try clear hi)))
                        go_meet
                        case rel => exact ⟨_, (!t157), (by first | rfl | (simp; done) | (simp [*]; done)), H', ⟨by have := HJ5.out; have := HK2.out; first | omega | exact Nat.le_refl _⟩, ⟨by repeat (first | (with_reducible first | exact HB.out | apply below_alloc | apply pw_below_drewN | apply below_drew1) | exact HB.out)⟩⟩
                    case rest =>
                      clear HC13
                      try clear c1
                      try clear p1
                      try clear q1
                      try clear hx1
                      try clear p2
                      try clear c5
                      try clear c6
                      try clear c7
                      try clear c7b0
                      try clear c7b1
                      try clear c7b2
                      try clear c8
                      try clear c8b0
                      try clear c9
                      try clear c10
                      try clear c10b0
                      try clear c11
                      try clear c11b0
                      try clear c12
                      try clear c12b0
                      try clear c13
                      try clear c14
                      try clear c14b0
                      try clear c14b1
                      try clear p15
                      try clear q15
                      try clear hx15
                      try clear hx156_0
                      try clear p156
                      try clear p2
                      try clear q156
                      obtain ⟨kq, x41_12, rfl, HA, HJ12, HB⟩ := hcut
                      cases kq with
                      | zero => exact absurd HA.out (by simp [laws_FnTextVAlignText.j2])
                      | succ kj12 =>
                        have H := HA.out
                        clear HA
                        simp only [laws_FnTextVAlignText.j2] at H
                        by_cases c17 : x41_12 = true
                        · subst c17
                          have H1 : (some true) = some r := by rw [if_pos rfl] at H; exact H
                          clear H
                          have H := H1
                          clear H1
                          obtain rfl := Option.some.inj H
                          go_wp2
                          go_ret
                          exact ⟨by first | rfl | (simp [errW_none, errW_some] <;> rfl) | (simp [*, errW_none, errW_some] <;> rfl), by repeat (first | (with_reducible first | exact HB.out | apply below_alloc | apply pw_below_drewN | apply below_drew1) | exact HB.out)⟩
                        · replace c17 := Bool.eq_false_iff.mpr c17
                          subst c17
                          have H1 : (if x29_2 > 0 then (if x7_2.size + 1 ≤ 9223372036854775807 then (if (x7_2 ++ (⟨#[10]⟩ : ByteArray)).size + (rdOf ByteArray.empty l1 x29_2).size ≤ 9223372036854775807 then (laws_FnTextVAlignText.l0 kj12 a0 l1 a2 ((x7_2 ++ (⟨#[10]⟩ : ByteArray)) ++ (rdOf ByteArray.empty l1 x29_2)) l1 (l1.length : Int) (wrap64 (x29_2 + 1))) else (none)) else (none)) else (if x7_2.size + (rdOf ByteArray.empty l1 x29_2).size ≤ 9223372036854775807 then (laws_FnTextVAlignText.l0 kj12 a0 l1 a2 (x7_2 ++ (rdOf ByteArray.empty l1 x29_2)) l1 (l1.length : Int) (wrap64 (x29_2 + 1))) else (none))) = some r := by rw [if_neg (show ¬ (false = true) by decide)] at H; exact H
                          clear H
                          have H := H1
                          clear H1
                          by_cases c18 : x29_2 > 0
                          · rw [if_pos c18] at H
                            have c18b0 : decide (0 < x29_2) = true := decide_eq_true c18
                            clear c18
                            by_cases c19 : x7_2.size + 1 ≤ 9223372036854775807
                            · rw [if_pos c19] at H
                              have c19b0 := eq_true c19
                              have c19b1 : decide (x7_2.size + 1 ≤ 9223372036854775807) = true := decide_eq_true c19
                              try have c19b2 : (9223372036854775807 < x7_2.size + 1) = False := eq_false (Nat.not_lt.2 c19)
                              by_cases c20 : (x7_2 ++ (⟨#[10]⟩ : ByteArray)).size + (rdOf ByteArray.empty l1 x29_2).size ≤ 9223372036854775807
                              · rw [if_pos c20] at H
                                have c20b0 := eq_true c20
                                have c20b1 : decide ((x7_2 ++ (⟨#[10]⟩ : ByteArray)).size + (rdOf ByteArray.empty l1 x29_2).size ≤ 9223372036854775807) = true := decide_eq_true c20
                                try have c20b2 : (9223372036854775807 < (x7_2 ++ (⟨#[10]⟩ : ByteArray)).size + (rdOf ByteArray.empty l1 x29_2).size) = False := eq_false (Nat.not_lt.2 c20)
                                have H' := Aside0.mk H
                                clear H
                                go_wp2
                                go_roundg kj12
                                case measure => have := HJ5.out; have := HK2.out; have := HJ12.out; omega
                                case rel => exact ⟨((x7_2 ++ (⟨#[10]⟩ : ByteArray)) ++ (rdOf ByteArray.empty l1 x29_2)), (wrap64 (x29_2 + 1)), (by first | rfl | (simp; done) | (simp [*]; done)), (by first | rfl | (simp; done) | (simp [*]; done)), H', ⟨by have := HJ5.out; have := HK2.out; have := HJ12.out; omega⟩, ⟨by repeat (first | (with_reducible first | exact HB.out | apply below_alloc | apply pw_below_drewN | apply below_drew1) | exact HB.out)⟩⟩
                              · rw [if_neg c20] at H
                                exact absurd H (by simp)
                            · rw [if_neg c19] at H
                              exact absurd H (by simp)
                          · rw [if_neg c18] at H
                            have c18b0 : decide (0 < x29_2) = false := decide_eq_false c18
                            clear c18
                            by_cases c21 : x7_2.size + (rdOf ByteArray.empty l1 x29_2).size ≤ 9223372036854775807
                            · rw [if_pos c21] at H
                              have c21b0 := eq_true c21
                              have c21b1 : decide (x7_2.size + (rdOf ByteArray.empty l1 x29_2).size ≤ 9223372036854775807) = true := decide_eq_true c21
                              try have c21b2 : (9223372036854775807 < x7_2.size + (rdOf ByteArray.empty l1 x29_2).size) = False := eq_false (Nat.not_lt.2 c21)
                              have H' := Aside0.mk H
                              clear H
                              go_wp2
                              go_roundg kj12
                              case measure => have := HJ5.out; have := HK2.out; have := HJ12.out; omega
                              case rel => exact ⟨(x7_2 ++ (rdOf ByteArray.empty l1 x29_2)), (wrap64 (x29_2 + 1)), (by first | rfl | (simp; done) | (simp [*]; done)), (by first | rfl | (simp; done) | (simp [*]; done)), H', ⟨by have := HJ5.out; have := HK2.out; have := HJ12.out; omega⟩, ⟨by repeat (first | (with_reducible first | exact HB.out | apply below_alloc | apply pw_below_drewN | apply below_drew1) | exact HB.out)⟩⟩
                            · rw [if_neg c21] at H
                              exact absurd H (by simp)
                  · rw [if_neg c12] at H
                    exact absurd H (by simp)
                · rw [if_neg c11] at H
                  exact absurd H (by simp)
              · rw [if_neg c10] at H
                have c10b0 : decide (x29_2 < (l1.length : Int)) = false := decide_eq_false c10
                clear c10
                replace H := Option.bind_eq_some_iff.mp H
                obtain ⟨t149, A220, H⟩ := H
                replace H : ((impl_TextVAlign.f k2 (wrap64 (Int.tmod a0 4)) l1 a2).bind fun t152 => ((spec_TxSameTexts.f k2 t149 t152).bind fun t155 => (if t155 = true then (some ((t149.length : Int) == a2)) else (some false)))) = some r := H
                have A22 := Aside0.mk A220
                clear A220
                replace H := Option.bind_eq_some_iff.mp H
                obtain ⟨t152, A230, H⟩ := H
                replace H : ((spec_TxSameTexts.f k2 t149 t152).bind fun t155 => (if t155 = true then (some ((t149.length : Int) == a2)) else (some false))) = some r := H
                have A23 := Aside0.mk A230
                clear A230
                replace H := Option.bind_eq_some_iff.mp H
                obtain ⟨t155, A240, H⟩ := H
                replace H : (if t155 = true then (some ((t149.length : Int) == a2)) else (some false)) = some r := H
                have A24 := Aside0.mk A240
                clear A240
                by_cases c25 : t155 = true
                · subst c25
                  have H1 : (some ((t149.length : Int) == a2)) = some r := by rw [if_pos rfl] at H; exact H
                  clear H
                  have H := H1
                  clear H1
                  obtain rfl := Option.some.inj H
                  go_wp2_with (first | ((with_reducible refine gate_callee (f := 18) rfl ?_); refine goesL_ (some 55) rfl rfl Try.func18 (by kernel_rfl) rfl #[.int .i64 (wrap64 (Int.tmod a0 4)), .string x7_2, .int .i64 a2] rfl (by (try simp only [List.map_toArray, List.map_cons, List.map_nil]); first | done | rfl | (simp only [List.length_drop, List.length_take]; rfl)) ?_; (with_reducible refine (impl_TextVAlignText.calls k2 (wrap64 (Int.tmod a0 4)) x7_2 a2 t149 _ A22.out).mono ?_); rintro e w26 ⟨v150, rfl, ho0, hb⟩; refine ⟨_, rfl, ?_⟩; have n0_ := Aside0.mk (Kd.R_lower ho0 (below_size (by repeat (first | (with_reducible first | exact HB.out | apply below_alloc | apply pw_below_drewN | apply below_drew1) | exact HB.out)))); have n1_ := Aside0.mk (below_step (by repeat (first | (with_reducible first | exact HB.out | apply below_alloc | apply pw_below_drewN | apply below_drew1) | exact HB.out)) hb); clear HB; have HO151 := n0_; have HB := n1_; clear n0_ n1_; (try clear hb); (try clear hb2); (try clear hk); (try clear hi); (try clear ho0)) | ((with_reducible refine gate_callee (f := 20) rfl ?_); refine goesL_ (some 62) rfl rfl Try.func20 (by kernel_rfl) rfl #[.int .i64 (wrap64 (Int.tmod a0 4)), .slice A1 l1.length c1, .int .i64 a2] rfl (by (try simp only [List.map_toArray, List.map_cons, List.map_nil]); first | done | rfl | (simp only [List.length_drop, List.length_take]; rfl)) ?_; (with_reducible refine (impl_TextVAlign.calls k2 (wrap64 (Int.tmod a0 4)) _ _ l1 a2 t152 _ ?side1 ?side2 A23.out).mono ?_); (case side1 => repeat (first | exact (Kd.C_below HR1.out HB.out) | (with_reducible refine Kd.C_alloc ?_ _) | (with_reducible refine Kd.C_drewN ?_ _) | (with_reducible refine Kd.C_drew ?_))); (case side2 => exact HC1.out); rintro e w27 ⟨v153, rfl, ho0, hb⟩; refine ⟨_, rfl, ?_⟩; have n0_ := Aside0.mk (Kd.R_elder' (by (with_reducible repeat (first | apply Kd.R_alloc | apply Kd.R_drewN | apply Kd.R_drew)); exact HO151.out) (Kd.R_base ho0) hb); have n1_ := Aside0.mk (Kd.R_lower (Kd.R_new' ho0 (Kd.R_lt (by (with_reducible repeat (first | apply Kd.R_alloc | apply Kd.R_drewN | apply Kd.R_drew)); exact HO151.out))) (below_size (by repeat (first | (with_reducible first | exact HB.out | apply below_alloc | apply pw_below_drewN | apply below_drew1) | exact HB.out)))); have n2_ := Aside0.mk (below_step (by repeat (first | (with_reducible first | exact HB.out | apply below_alloc | apply pw_below_drewN | apply below_drew1) | exact HB.out)) hb); clear HO151; clear HB; have HO151 := n0_; have HO154 := n1_; have HB := n2_; clear n0_ n1_ n2_; (try clear hb); (try clear hb2); (try clear hk); (try clear hi); (try clear ho0); obtain ⟨Ao28, co28, eo28⟩ := Kd.R_slice HO151.out; subst eo28; obtain ⟨Ao29, co29, eo29⟩ := Kd.R_slice HO154.out; subst eo29) | ((with_reducible refine gate_callee (f := 19) rfl ?_); refine goesL_ (some 63) rfl rfl Try.func19 (by kernel_rfl) rfl #[.slice Ao28 t149.length co28, .slice Ao29 t152.length co29] rfl (by (try simp only [List.map_toArray, List.map_cons, List.map_nil]); first | done | rfl | (simp only [List.length_drop, List.length_take]; rfl)) ?_; (with_reducible refine (spec_TxSameTexts.calls k2 _ _ t149 _ _ t152 true _ ?side1 ?side2 ?side3 ?side4 A24.out).mono ?_); (case side1 => repeat (first | exact (Kd.R_reads' HO151.out).2.2 | (with_reducible refine Kd.C_alloc ?_ _) | (with_reducible refine Kd.C_drewN ?_ _) | (with_reducible refine Kd.C_drew ?_))); (case side2 => exact (Kd.R_reads' HO151.out).2.1); (case side3 => repeat (first | exact (Kd.R_reads' HO154.out).2.2 | (with_reducible refine Kd.C_alloc ?_ _) | (with_reducible refine Kd.C_drewN ?_ _) | (with_reducible refine Kd.C_drew ?_))); (case side4 => exact (Kd.R_reads' HO154.out).2.1); rintro e w' ⟨rfl, ⟨nd, rfl⟩⟩; refine ⟨_, rfl, ?_⟩))
                  go_ret
                  exact ⟨by first | rfl | (simp [errW_none, errW_some] <;> rfl) | (simp [*, errW_none, errW_some] <;> rfl), by repeat (first | (with_reducible first | exact HB.out | apply below_alloc | apply pw_below_drewN | apply below_drew1) | exact HB.out)⟩
                · replace c25 := Bool.eq_false_iff.mpr c25
                  subst c25
                  have H1 : (some false) = some r := by rw [if_neg (show ¬ (false = true) by decide)] at H; exact H
                  clear H
                  have H := H1
                  clear H1
                  obtain rfl := Option.some.inj H
                  go_wp2_with (first | ((with_reducible refine gate_callee (f := 18) rfl ?_); refine goesL_ (some 55) rfl rfl Try.func18 (by kernel_rfl) rfl #[.int .i64 (wrap64 (Int.tmod a0 4)), .string x7_2, .int .i64 a2] rfl (by (try simp only [List.map_toArray, List.map_cons, List.map_nil]); first | done | rfl | (simp only [List.length_drop, List.length_take]; rfl)) ?_; (with_reducible refine (impl_TextVAlignText.calls k2 (wrap64 (Int.tmod a0 4)) x7_2 a2 t149 _ A22.out).mono ?_); rintro e w30 ⟨v150, rfl, ho0, hb⟩; refine ⟨_, rfl, ?_⟩; have n0_ := Aside0.mk (Kd.R_lower ho0 (below_size (by repeat (first | (with_reducible first | exact HB.out | apply below_alloc | apply pw_below_drewN | apply below_drew1) | exact HB.out)))); have n1_ := Aside0.mk (below_step (by repeat (first | (with_reducible first | exact HB.out | apply below_alloc | apply pw_below_drewN | apply below_drew1) | exact HB.out)) hb); clear HB; have HO151 := n0_; have HB := n1_; clear n0_ n1_; (try clear hb); (try clear hb2); (try clear hk); (try clear hi); (try clear ho0)) | ((with_reducible refine gate_callee (f := 20) rfl ?_); refine goesL_ (some 62) rfl rfl Try.func20 (by kernel_rfl) rfl #[.int .i64 (wrap64 (Int.tmod a0 4)), .slice A1 l1.length c1, .int .i64 a2] rfl (by (try simp only [List.map_toArray, List.map_cons, List.map_nil]); first | done | rfl | (simp only [List.length_drop, List.length_take]; rfl)) ?_; (with_reducible refine (impl_TextVAlign.calls k2 (wrap64 (Int.tmod a0 4)) _ _ l1 a2 t152 _ ?side1 ?side2 A23.out).mono ?_); (case side1 => repeat (first | exact (Kd.C_below HR1.out HB.out) | (with_reducible refine Kd.C_alloc ?_ _) | (with_reducible refine Kd.C_drewN ?_ _) | (with_reducible refine Kd.C_drew ?_))); (case side2 => exact HC1.out); rintro e w31 ⟨v153, rfl, ho0, hb⟩; refine ⟨_, rfl, ?_⟩; have n0_ := Aside0.mk (Kd.R_elder' (by (with_reducible repeat (first | apply Kd.R_alloc | apply Kd.R_drewN | apply Kd.R_drew)); exact HO151.out) (Kd.R_base ho0) hb); have n1_ := Aside0.mk (Kd.R_lower (Kd.R_new' ho0 (Kd.R_lt (by (with_reducible repeat (first | apply Kd.R_alloc | apply Kd.R_drewN | apply Kd.R_drew)); exact HO151.out))) (below_size (by repeat (first | (with_reducible first | exact HB.out | apply below_alloc | apply pw_below_drewN | apply below_drew1) | exact HB.out)))); have n2_ := Aside0.mk (below_step (by repeat (first | (with_reducible first | exact HB.out | apply below_alloc | apply pw_below_drewN | apply below_drew1) | exact HB.out)) hb); clear HO151; clear HB; have HO151 := n0_; have HO154 := n1_; have HB := n2_; clear n0_ n1_ n2_; (try clear hb); (try clear hb2); (try clear hk); (try clear hi); (try clear ho0); obtain ⟨Ao32, co32, eo32⟩ := Kd.R_slice HO151.out; subst eo32; obtain ⟨Ao33, co33, eo33⟩ := Kd.R_slice HO154.out; subst eo33) | ((with_reducible refine gate_callee (f := 19) rfl ?_); refine goesL_ (some 63) rfl rfl Try.func19 (by kernel_rfl) rfl #[.slice Ao32 t149.length co32, .slice Ao33 t152.length co33] rfl (by (try simp only [List.map_toArray, List.map_cons, List.map_nil]); first | done | rfl | (simp only [List.length_drop, List.length_take]; rfl)) ?_; (with_reducible refine (spec_TxSameTexts.calls k2 _ _ t149 _ _ t152 false _ ?side1 ?side2 ?side3 ?side4 A24.out).mono ?_); (case side1 => repeat (first | exact (Kd.R_reads' HO151.out).2.2 | (with_reducible refine Kd.C_alloc ?_ _) | (with_reducible refine Kd.C_drewN ?_ _) | (with_reducible refine Kd.C_drew ?_))); (case side2 => exact (Kd.R_reads' HO151.out).2.1); (case side3 => repeat (first | exact (Kd.R_reads' HO154.out).2.2 | (with_reducible refine Kd.C_alloc ?_ _) | (with_reducible refine Kd.C_drewN ?_ _) | (with_reducible refine Kd.C_drew ?_))); (case side4 => exact (Kd.R_reads' HO154.out).2.1); rintro e w' ⟨rfl, ⟨nd, rfl⟩⟩; refine ⟨_, rfl, ?_⟩))
                  go_ret
                  exact ⟨by first | rfl | (simp [errW_none, errW_some] <;> rfl) | (simp [*, errW_none, errW_some] <;> rfl), by repeat (first | (with_reducible first | exact HB.out | apply below_alloc | apply pw_below_drewN | apply below_drew1) | exact HB.out)⟩
  · replace c5 := Bool.eq_false_iff.mpr c5
    subst c5
    have H1 : (some true) = some r := by rw [if_neg (show ¬ (false = true) by decide)] at H; exact H
    clear H
    have H := H1
    clear H1
    obtain rfl := Option.some.inj H
    go_enter Try.func6, Try.ntmps6
    go_wp2_with (first | ((with_reducible refine gate_callee (f := 13) rfl ?_); refine goesL_ (some 12) rfl rfl Try.func13 (by kernel_rfl) rfl #[.slice A1 l1.length c1] rfl (by (try simp only [List.map_toArray, List.map_cons, List.map_nil]); first | done | rfl | (simp only [List.length_drop, List.length_take]; rfl)) ?_; (with_reducible refine (laws_zzFits4.calls k _ _ l1 false _ ?side1 ?side2 A4.out).mono ?_); (case side1 => repeat (first | exact HR1.out | (with_reducible refine Kd.C_alloc ?_ _) | (with_reducible refine Kd.C_drewN ?_ _) | (with_reducible refine Kd.C_drew ?_))); (case side2 => exact HC1.out); rintro e w' ⟨rfl, ⟨nd, rfl⟩⟩; refine ⟨_, rfl, ?_⟩))
    go_ret
    exact ⟨by first | rfl | (simp [errW_none, errW_some] <;> rfl) | (simp [*, errW_none, errW_some] <;> rfl), by repeat (first | (with_reducible first | exact HB.out | apply below_alloc | apply pw_below_drewN | apply below_drew1) | exact HB.out)⟩

def laws_FnTextVAlignText.Pure : Prop := ∀ (a0 : Int) (l1 : List ByteArray) (a2 : Int), (Lit.int .u8 a0).wf = true → (l1.length * 16 ≤ 140737488351232 ∧ l1.length ≤ maxLen ∧ ∀ yl1 ∈ l1, yl1.size ≤ 140737488351232) → (Lit.int .i64 a2).wf = true → ∃ k, laws_FnTextVAlignText.f k a0 l1 a2 = some true

end Go.Proofs.Ytimefacdnabkdab.PFnTextVAlignText
