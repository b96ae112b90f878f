-- Written by hprint.py, a program of this session
import Derived.Test.YtimefacdnabkdabPFnTsvRowx0
import Derived.Test.YtimefacdnabkdabPFnTsvRowx1
import Derived.Test.YtimefacdnabkdabPFnTsvRowx2
namespace Go.Proofs.Ytimefacdnabkdab.PFnTsvRow
open Go.RowKit Go.Proofs.Ytimefacdnabkdab.Hand Go.Proofs.YtimefacdnabkdabW.PrintWords Go.Proofs.YtimefacdnabkdabW.PrintLast Go.Proofs.YtimefacdnabkdabW.PrintMore
attribute [local go_sem] max2_int min2_int max_two min_two max_three min_three max_four min_four   -- for this text's walks alone
set_option linter.unusedVariables false
set_option linter.unusedSimpArgs false

/-! ### spec_TsvRow: function 16 -/
def spec_TsvRow.l0 : Nat → List ByteArray → Int → Bool → Int → List ByteArray → Int → Option (ByteArray)
  | 0, _, _, _, _, _, _ => none
  | k + 1, x0, x1, x2, x3, x9, x10 => if x10 < (x0.length : Int) then (if 0 ≤ x10 then ((spec_has.f k (rdOf ByteArray.empty x0 x10) (⟨#[9]⟩ : ByteArray)).bind fun t125 => (if t125 = true then ((spec_quoted.f k (rdOf ByteArray.empty x0 x10)).bind fun t126 => (if x9.length < 8796093022208 then (spec_TsvRow.l0 k x0 x1 x2 x3 (x9 ++ [t126]) (wrap64 (x10 + 1))) else (none))) else ((spec_has.f k (rdOf ByteArray.empty x0 x10) (⟨#[10]⟩ : ByteArray)).bind fun t130 => (if t130 = true then ((spec_quoted.f k (rdOf ByteArray.empty x0 x10)).bind fun t131 => (if x9.length < 8796093022208 then (spec_TsvRow.l0 k x0 x1 x2 x3 (x9 ++ [t131]) (wrap64 (x10 + 1))) else (none))) else ((spec_has.f k (rdOf ByteArray.empty x0 x10) (⟨#[34]⟩ : ByteArray)).bind fun t135 => (if t135 = true then ((spec_quoted.f k (rdOf ByteArray.empty x0 x10)).bind fun t136 => (if x9.length < 8796093022208 then (spec_TsvRow.l0 k x0 x1 x2 x3 (x9 ++ [t136]) (wrap64 (x10 + 1))) else (none))) else ((spec_has.f k (rdOf ByteArray.empty x0 x10) (⟨#[32, 32, 32, 32]⟩ : ByteArray)).bind fun t140 => (if t140 = true then ((spec_quoted.f k (rdOf ByteArray.empty x0 x10)).bind fun t141 => (if x9.length < 8796093022208 then (spec_TsvRow.l0 k x0 x1 x2 x3 (x9 ++ [t141]) (wrap64 (x10 + 1))) else (none))) else (if x9.length < 8796093022208 then (spec_TsvRow.l0 k x0 x1 x2 x3 (x9 ++ [rdOf ByteArray.empty x0 x10]) (wrap64 (x10 + 1))) else (none)))))))))) else (none)) else ((spec_separated.f k x9 x1 (⟨#[9]⟩ : ByteArray) x2 x3).bind fun t123 => (some t123))
def spec_TsvRow.f (k : Nat) (l0 : List ByteArray) (a1 : Int) (a2 : Bool) (a3 : Int) : Option (ByteArray) := spec_TsvRow.l0 k l0 a1 a2 a3 ([] : List ByteArray) 0
theorem spec_TsvRow.mono_l : ∀ k, (∀ y0 y1 y2 y3 y4 y5, LeO (spec_TsvRow.l0 k y0 y1 y2 y3 y4 y5) (spec_TsvRow.l0 (k + 1) y0 y1 y2 y3 y4 y5))
  | 0 => fun _ _ _ _ _ _ r h => by simp [spec_TsvRow.l0] at h
  | k + 1 => by
    have ih0 := spec_TsvRow.mono_l k
    · intro y0 y1 y2 y3 y4 y5
      unfold spec_TsvRow.l0
      repeat' first
      | (with_reducible exact ih0 _ _ _ _ _ _)
      | (with_reducible exact spec_has.mono _ _ _)
      | (with_reducible exact spec_quoted.mono _ _)
      | (with_reducible exact spec_separated.mono _ _ _ _ _ _)
      | (with_reducible exact LeO.refl _)
      | (with_reducible exact LeO.none _)
      | (with_reducible refine LeO.ite ?_ ?_)
      | (with_reducible refine LeO.bind ?_ (fun _ => ?_))
      | exact ih0 _ _ _ _ _ _
      | exact spec_has.mono _ _ _
      | exact spec_quoted.mono _ _
      | exact spec_separated.mono _ _ _ _ _ _
      | exact LeO.none _
      | refine LeO.ite ?_ ?_
      | refine LeO.bind ?_ (fun _ => ?_)
theorem spec_TsvRow.mono : ∀ a0 a1 a2 a3 k, LeO (spec_TsvRow.f k a0 a1 a2 a3) (spec_TsvRow.f (k + 1) a0 a1 a2 a3) := by
  intro a0 a1 a2 a3 k
  have ih0 := spec_TsvRow.mono_l k
  unfold spec_TsvRow.f
  repeat' first
      | (with_reducible exact ih0 _ _ _ _ _ _)
      | (with_reducible exact spec_has.mono _ _ _)
      | (with_reducible exact spec_quoted.mono _ _)
      | (with_reducible exact spec_separated.mono _ _ _ _ _ _)
      | (with_reducible exact LeO.refl _)
      | (with_reducible exact LeO.none _)
      | (with_reducible refine LeO.ite ?_ ?_)
      | (with_reducible refine LeO.bind ?_ (fun _ => ?_))
      | exact ih0 _ _ _ _ _ _
      | exact spec_has.mono _ _ _
      | exact spec_quoted.mono _ _
      | exact spec_separated.mono _ _ _ _ _ _
      | exact LeO.none _
      | refine LeO.ite ?_ ?_
      | refine LeO.bind ?_ (fun _ => ?_)
set_option maxHeartbeats 8000000 in
set_option maxRecDepth 100000 in
theorem spec_TsvRow.calls (k : Nat) (A0 : Option Addr) (c0 : Nat) (l0 : List ByteArray) (a1 : Int) (a2 : Bool) (a3 : Int) (r : ByteArray) (w : World) (hr0 : Kd.C Kd.string w A0 l0.length l0) (hc0 : l0.length ≤ c0) (h : spec_TsvRow.f k l0 a1 a2 a3 = some r) :
    Calls Try.prog 16 #[.slice A0 l0.length c0, .int .i64 a1, .bool a2, .int .i64 a3] w fun e w' => e = .returned (.string r) ∧ Below w.heap.size w w' := by
  have HR0 := Aside0.mk hr0
  have HC0 := Aside0.mk hc0
  clear hr0 hc0
  have HB := Aside0.mk (Below.refl w.heap.size w)
  have H : (spec_TsvRow.l0 k l0 a1 a2 a3 ([] : List ByteArray) 0) = some r := h
  clear h
  have H' := Aside0.mk H
  clear H
  go_enter Try.func16, Try.ntmps16
  go_wp2
  go_loopg [9, 10] k (fun kq v9 v10 w' => ∃ (x9_1 : List ByteArray) (x10_1 : Int), v10 = .int .i64 x10_1 ∧ Aside0 (spec_TsvRow.l0 kq l0 a1 a2 a3 x9_1 x10_1 = some r) ∧ Aside0 (kq ≤ k) ∧ Aside0 (Kd.R Kd.string 9 w' w.heap.size (fun _ => True) v9 x9_1) ∧ Aside0 (Below w.heap.size w w'))
  case atStart => exact ⟨(([] : List ByteArray)), (0), (by first | rfl | (simp; done) | (simp [*]; done)), H', ⟨Nat.le_refl _⟩, ⟨by first | exact Kd.R_nil _ _ _ _ _ | exact Kd.N_nil _ _ _ _ _ | exact Kd.V_nil _ _ _ _ _ | exact Kd.Q_nil _ _ _ _ _ | exact Kd.S_nil _ _ _ _ _⟩, ⟨by repeat (first | (with_reducible first | exact HB.out | apply below_alloc | apply pw_below_drewN | apply below_drew1) | exact HB.out)⟩⟩
  case round =>
    clear H'
    try clear c1
    try clear p2
    obtain ⟨x9_1, x10_1, rfl, HA, HK1, HO_9, HB⟩ := hrel
    cases gk with
    | zero => exact absurd HA.out (by simp [spec_TsvRow.l0])
    | succ k1 =>
      have H := HA.out
      clear HA
      simp only [spec_TsvRow.l0] at H
      by_cases c5 : x10_1 < (l0.length : Int)
      · rw [if_pos c5] at H
        have c5b0 : decide (x10_1 < (l0.length : Int)) = true := decide_eq_true c5
        clear c5
        by_cases c6 : 0 ≤ x10_1
        · rw [if_pos c6] at H
          have c6b0 : decide (0 ≤ x10_1) = true := decide_eq_true c6
          clear c6
          replace H := Option.bind_eq_some_iff.mp H
          obtain ⟨t125, A70, H⟩ := H
          replace H : (if t125 = true then ((spec_quoted.f k1 (rdOf ByteArray.empty l0 x10_1)).bind fun t126 => (if x9_1.length < 8796093022208 then (spec_TsvRow.l0 k1 l0 a1 a2 a3 (x9_1 ++ [t126]) (wrap64 (x10_1 + 1))) else (none))) else ((spec_has.f k1 (rdOf ByteArray.empty l0 x10_1) (⟨#[10]⟩ : ByteArray)).bind fun t130 => (if t130 = true then ((spec_quoted.f k1 (rdOf ByteArray.empty l0 x10_1)).bind fun t131 => (if x9_1.length < 8796093022208 then (spec_TsvRow.l0 k1 l0 a1 a2 a3 (x9_1 ++ [t131]) (wrap64 (x10_1 + 1))) else (none))) else ((spec_has.f k1 (rdOf ByteArray.empty l0 x10_1) (⟨#[34]⟩ : ByteArray)).bind fun t135 => (if t135 = true then ((spec_quoted.f k1 (rdOf ByteArray.empty l0 x10_1)).bind fun t136 => (if x9_1.length < 8796093022208 then (spec_TsvRow.l0 k1 l0 a1 a2 a3 (x9_1 ++ [t136]) (wrap64 (x10_1 + 1))) else (none))) else ((spec_has.f k1 (rdOf ByteArray.empty l0 x10_1) (⟨#[32, 32, 32, 32]⟩ : ByteArray)).bind fun t140 => (if t140 = true then ((spec_quoted.f k1 (rdOf ByteArray.empty l0 x10_1)).bind fun t141 => (if x9_1.length < 8796093022208 then (spec_TsvRow.l0 k1 l0 a1 a2 a3 (x9_1 ++ [t141]) (wrap64 (x10_1 + 1))) else (none))) else (if x9_1.length < 8796093022208 then (spec_TsvRow.l0 k1 l0 a1 a2 a3 (x9_1 ++ [rdOf ByteArray.empty l0 x10_1]) (wrap64 (x10_1 + 1))) else (none))))))))) = some r := H
          have A7 := Aside0.mk A70
          clear A70
          by_cases c8 : t125 = true
          · subst c8
            have H1 : ((spec_quoted.f k1 (rdOf ByteArray.empty l0 x10_1)).bind fun t126 => (if x9_1.length < 8796093022208 then (spec_TsvRow.l0 k1 l0 a1 a2 a3 (x9_1 ++ [t126]) (wrap64 (x10_1 + 1))) else (none))) = some r := by rw [if_pos rfl] at H; exact H
            clear H
            have H := H1
            clear H1
            replace H := Option.bind_eq_some_iff.mp H
            obtain ⟨t126, A90, H⟩ := H
            replace H : (if x9_1.length < 8796093022208 then (spec_TsvRow.l0 k1 l0 a1 a2 a3 (x9_1 ++ [t126]) (wrap64 (x10_1 + 1))) else (none)) = some r := H
            have A9 := Aside0.mk A90
            clear A90
            by_cases c10 : x9_1.length < 8796093022208
            · rw [if_pos c10] at H
              have LMc10 := Aside0.mk c10
              clear c10
              obtain ⟨y127, hy127⟩ : ∃ y_ : List ByteArray, y_ = (x9_1 ++ [t126]) := ⟨_, rfl⟩
              replace H : (spec_TsvRow.l0 k1 l0 a1 a2 a3 y127 (wrap64 (x10_1 + 1))) = some r := by first | (rw [hy127]; with_reducible exact H) | (have H2_ := (Option.bind_some _ _).symm.trans H; rw [hy127]; with_reducible exact H2_) | (have H2_ := (Option.bind_some _ _).symm.trans H; with_reducible exact H2_) | with_reducible exact H | (rw [hy127]; exact H) | exact H
              have Ny127 := Aside0.mk hy127
              clear hy127
              have H' := Aside0.mk H
              clear H
              have p124 : 0 ≤ (x10_1 : Int) := of_decide_eq_true (by first | (with_reducible assumption) | assumption)
              have q124 : x10_1 < (l0.length : Int) := of_decide_eq_true (by first | (with_reducible assumption) | assumption)
              obtain ⟨ad124, e124, hx124_0⟩ := Kd.at_string HR0.out x10_1 p124 q124
              cases e124
              replace hx124_0 := (HB.out.cell (World.block_lt_of_cell? w _ hx124_0)).trans hx124_0
              (try simp only [Go.IntWalk.toNatUp] at hx124_0)
              replace p124 := eq_true p124
              replace q124 := eq_true q124
              go_wp2_with (first | ((with_reducible refine gate_callee (f := 31) rfl ?_); refine goesL_ (some 23) rfl rfl Try.func31 (by kernel_rfl) rfl #[.string (rdOf ByteArray.empty l0 x10_1), .string (⟨#[9]⟩ : ByteArray)] rfl (by (try simp only [List.map_toArray, List.map_cons, List.map_nil]); first | done | rfl | (simp only [List.length_drop, List.length_take]; rfl)) ?_; (with_reducible refine (spec_has.calls k1 (rdOf ByteArray.empty l0 x10_1) (⟨#[9]⟩ : ByteArray) true _ A7.out).mono ?_); rintro e w' ⟨rfl, ⟨nd, rfl⟩⟩; refine ⟨_, rfl, ?_⟩) | ((with_reducible refine gate_callee (f := 32) rfl ?_); refine goesL_ (some 37) rfl rfl Try.func32 (by kernel_rfl) rfl #[.string (rdOf ByteArray.empty l0 x10_1)] rfl (by (try simp only [List.map_toArray, List.map_cons, List.map_nil]); first | done | rfl | (simp only [List.length_drop, List.length_take]; rfl)) ?_; (with_reducible refine (spec_quoted.calls k1 (rdOf ByteArray.empty l0 x10_1) t126 _ A9.out).mono ?_); rintro e w' ⟨rfl, ⟨nd, rfl⟩⟩; refine ⟨_, rfl, ?_⟩) | ((with_reducible refine gate_builtin (b := .append) (xs := #[.tmp 38, .tmp 40]) rfl ?_); at_builtin; refine Kd.R_append Kd.string (w0 := w) w.heap.size rfl (.tmp 38) (.tmp 40) 34 9 (.string ⟨#[]⟩) 16 rfl Try.underlying34 info9 rfl (by decide) (by omega) u9 x9_1 t126 [.string t126] (fun _ => True) (fun _ => False) rfl rfl ?aP (fun _ hk => hk.elim) ?aF ?aO ?aB ?aS ?aL ?_; (case aP => exact rfl); (case aB => exact (by repeat (first | (with_reducible first | exact HB.out | apply below_alloc | apply pw_below_drewN | apply below_drew1) | exact HB.out))); (case aF => exact (fun _ _ => trivial)); (case aO => exact (by (with_reducible repeat (first | apply Kd.R_alloc | apply Kd.R_drewN | apply Kd.R_drew)); exact HO_9.out)); (case aS => exact (below_size (by repeat (first | (with_reducible first | exact HB.out | apply below_alloc | apply pw_below_drewN | apply below_drew1) | exact HB.out)))); (case aL => have := LMc10.out; omega); intro v128 w11 ho hb hg hat; rw [← Ny127.out] at ho; have n0_ := Aside0.mk (hb); have n1_ := Aside0.mk (ho); clear HB; clear HO_9; have HB := n0_; have HO129 := n1_; clear n0_ n1_; clear ho hb hg hat))
              go_roundg k1
              case measure => have := HK1.out; omega
              case rel => exact ⟨(y127), (wrap64 (x10_1 + 1)), (by first | rfl | (simp; done) | (simp [*]; done)), H', ⟨by have := HK1.out; omega⟩, ⟨by (with_reducible repeat (first | apply Kd.R_alloc | apply Kd.R_drewN | apply Kd.R_drew)); exact HO129.out⟩, ⟨by repeat (first | (with_reducible first | exact HB.out | apply below_alloc | apply pw_below_drewN | apply below_drew1) | exact HB.out)⟩⟩
            · rw [if_neg c10] at H
              exact absurd H (by simp)
          · replace c8 := Bool.eq_false_iff.mpr c8
            subst c8
            have H1 : ((spec_has.f k1 (rdOf ByteArray.empty l0 x10_1) (⟨#[10]⟩ : ByteArray)).bind fun t130 => (if t130 = true then ((spec_quoted.f k1 (rdOf ByteArray.empty l0 x10_1)).bind fun t131 => (if x9_1.length < 8796093022208 then (spec_TsvRow.l0 k1 l0 a1 a2 a3 (x9_1 ++ [t131]) (wrap64 (x10_1 + 1))) else (none))) else ((spec_has.f k1 (rdOf ByteArray.empty l0 x10_1) (⟨#[34]⟩ : ByteArray)).bind fun t135 => (if t135 = true then ((spec_quoted.f k1 (rdOf ByteArray.empty l0 x10_1)).bind fun t136 => (if x9_1.length < 8796093022208 then (spec_TsvRow.l0 k1 l0 a1 a2 a3 (x9_1 ++ [t136]) (wrap64 (x10_1 + 1))) else (none))) else ((spec_has.f k1 (rdOf ByteArray.empty l0 x10_1) (⟨#[32, 32, 32, 32]⟩ : ByteArray)).bind fun t140 => (if t140 = true then ((spec_quoted.f k1 (rdOf ByteArray.empty l0 x10_1)).bind fun t141 => (if x9_1.length < 8796093022208 then (spec_TsvRow.l0 k1 l0 a1 a2 a3 (x9_1 ++ [t141]) (wrap64 (x10_1 + 1))) else (none))) else (if x9_1.length < 8796093022208 then (spec_TsvRow.l0 k1 l0 a1 a2 a3 (x9_1 ++ [rdOf ByteArray.empty l0 x10_1]) (wrap64 (x10_1 + 1))) else (none)))))))) = some r := by rw [if_neg (show ¬ (false = true) by decide)] at H; exact H
            clear H
            have H := H1
            clear H1
            replace H := Option.bind_eq_some_iff.mp H
            obtain ⟨t130, A120, H⟩ := H
            replace H : (if t130 = true then ((spec_quoted.f k1 (rdOf ByteArray.empty l0 x10_1)).bind fun t131 => (if x9_1.length < 8796093022208 then (spec_TsvRow.l0 k1 l0 a1 a2 a3 (x9_1 ++ [t131]) (wrap64 (x10_1 + 1))) else (none))) else ((spec_has.f k1 (rdOf ByteArray.empty l0 x10_1) (⟨#[34]⟩ : ByteArray)).bind fun t135 => (if t135 = true then ((spec_quoted.f k1 (rdOf ByteArray.empty l0 x10_1)).bind fun t136 => (if x9_1.length < 8796093022208 then (spec_TsvRow.l0 k1 l0 a1 a2 a3 (x9_1 ++ [t136]) (wrap64 (x10_1 + 1))) else (none))) else ((spec_has.f k1 (rdOf ByteArray.empty l0 x10_1) (⟨#[32, 32, 32, 32]⟩ : ByteArray)).bind fun t140 => (if t140 = true then ((spec_quoted.f k1 (rdOf ByteArray.empty l0 x10_1)).bind fun t141 => (if x9_1.length < 8796093022208 then (spec_TsvRow.l0 k1 l0 a1 a2 a3 (x9_1 ++ [t141]) (wrap64 (x10_1 + 1))) else (none))) else (if x9_1.length < 8796093022208 then (spec_TsvRow.l0 k1 l0 a1 a2 a3 (x9_1 ++ [rdOf ByteArray.empty l0 x10_1]) (wrap64 (x10_1 + 1))) else (none))))))) = some r := H
            have A12 := Aside0.mk A120
            clear A120
            by_cases c13 : t130 = true
            · subst c13
              have H1 : ((spec_quoted.f k1 (rdOf ByteArray.empty l0 x10_1)).bind fun t131 => (if x9_1.length < 8796093022208 then (spec_TsvRow.l0 k1 l0 a1 a2 a3 (x9_1 ++ [t131]) (wrap64 (x10_1 + 1))) else (none))) = some r := by rw [if_pos rfl] at H; exact H
              clear H
              have H := H1
              clear H1
              replace H := Option.bind_eq_some_iff.mp H
              obtain ⟨t131, A140, H⟩ := H
              replace H : (if x9_1.length < 8796093022208 then (spec_TsvRow.l0 k1 l0 a1 a2 a3 (x9_1 ++ [t131]) (wrap64 (x10_1 + 1))) else (none)) = some r := H
              have A14 := Aside0.mk A140
              clear A140
              by_cases c15 : x9_1.length < 8796093022208
              · rw [if_pos c15] at H
                have LMc15 := Aside0.mk c15
                clear c15
                obtain ⟨y132, hy132⟩ : ∃ y_ : List ByteArray, y_ = (x9_1 ++ [t131]) := ⟨_, rfl⟩
                replace H : (spec_TsvRow.l0 k1 l0 a1 a2 a3 y132 (wrap64 (x10_1 + 1))) = some r := by first | (rw [hy132]; with_reducible exact H) | (have H2_ := (Option.bind_some _ _).symm.trans H; rw [hy132]; with_reducible exact H2_) | (have H2_ := (Option.bind_some _ _).symm.trans H; with_reducible exact H2_) | with_reducible exact H | (rw [hy132]; exact H) | exact H
                have Ny132 := Aside0.mk hy132
                clear hy132
                have H' := Aside0.mk H
                clear H
                have p124 : 0 ≤ (x10_1 : Int) := of_decide_eq_true (by first | (with_reducible assumption) | assumption)
                have q124 : x10_1 < (l0.length : Int) := of_decide_eq_true (by first | (with_reducible assumption) | assumption)
                obtain ⟨ad124, e124, hx124_0⟩ := Kd.at_string HR0.out x10_1 p124 q124
                cases e124
                replace hx124_0 := (HB.out.cell (World.block_lt_of_cell? w _ hx124_0)).trans hx124_0
                (try simp only [Go.IntWalk.toNatUp] at hx124_0)
                replace p124 := eq_true p124
                replace q124 := eq_true q124
                go_wp2_with (first | ((with_reducible refine gate_callee (f := 31) rfl ?_); refine goesL_ (some 23) rfl rfl Try.func31 (by kernel_rfl) rfl #[.string (rdOf ByteArray.empty l0 x10_1), .string (⟨#[9]⟩ : ByteArray)] rfl (by (try simp only [List.map_toArray, List.map_cons, List.map_nil]); first | done | rfl | (simp only [List.length_drop, List.length_take]; rfl)) ?_; (with_reducible refine (spec_has.calls k1 (rdOf ByteArray.empty l0 x10_1) (⟨#[9]⟩ : ByteArray) false _ A7.out).mono ?_); rintro e w' ⟨rfl, ⟨nd, rfl⟩⟩; refine ⟨_, rfl, ?_⟩) | (go_at_call 31; (with_reducible refine (spec_has.calls k1 (rdOf ByteArray.empty l0 x10_1) (⟨#[10]⟩ : ByteArray) true _ A12.out).mono ?_); rintro e w' ⟨rfl, ⟨nd, rfl⟩⟩) | ((with_reducible refine gate_callee (f := 32) rfl ?_); refine goesL_ (some 37) rfl rfl Try.func32 (by kernel_rfl) rfl #[.string (rdOf ByteArray.empty l0 x10_1)] rfl (by (try simp only [List.map_toArray, List.map_cons, List.map_nil]); first | done | rfl | (simp only [List.length_drop, List.length_take]; rfl)) ?_; (with_reducible refine (spec_quoted.calls k1 (rdOf ByteArray.empty l0 x10_1) t131 _ A14.out).mono ?_); rintro e w' ⟨rfl, ⟨nd, rfl⟩⟩; refine ⟨_, rfl, ?_⟩) | ((with_reducible refine gate_builtin (b := .append) (xs := #[.tmp 38, .tmp 40]) rfl ?_); at_builtin; refine Kd.R_append Kd.string (w0 := w) w.heap.size rfl (.tmp 38) (.tmp 40) 34 9 (.string ⟨#[]⟩) 16 rfl Try.underlying34 info9 rfl (by decide) (by omega) u9 x9_1 t131 [.string t131] (fun _ => True) (fun _ => False) rfl rfl ?aP (fun _ hk => hk.elim) ?aF ?aO ?aB ?aS ?aL ?_; (case aP => exact rfl); (case aB => exact (by repeat (first | (with_reducible first | exact HB.out | apply below_alloc | apply pw_below_drewN | apply below_drew1) | exact HB.out))); (case aF => exact (fun _ _ => trivial)); (case aO => exact (by (with_reducible repeat (first | apply Kd.R_alloc | apply Kd.R_drewN | apply Kd.R_drew)); exact HO_9.out)); (case aS => exact (below_size (by repeat (first | (with_reducible first | exact HB.out | apply below_alloc | apply pw_below_drewN | apply below_drew1) | exact HB.out)))); (case aL => have := LMc15.out; omega); intro v133 w16 ho hb hg hat; rw [← Ny132.out] at ho; have n0_ := Aside0.mk (hb); have n1_ := Aside0.mk (ho); clear HB; clear HO_9; have HB := n0_; have HO134 := n1_; clear n0_ n1_; clear ho hb hg hat))
                go_roundg k1
                case measure => have := HK1.out; omega
                case rel => exact ⟨(y132), (wrap64 (x10_1 + 1)), (by first | rfl | (simp; done) | (simp [*]; done)), H', ⟨by have := HK1.out; omega⟩, ⟨by (with_reducible repeat (first | apply Kd.R_alloc | apply Kd.R_drewN | apply Kd.R_drew)); exact HO134.out⟩, ⟨by repeat (first | (with_reducible first | exact HB.out | apply below_alloc | apply pw_below_drewN | apply below_drew1) | exact HB.out)⟩⟩
              · rw [if_neg c15] at H
                exact absurd H (by simp)
            · replace c13 := Bool.eq_false_iff.mpr c13
              subst c13
              have H1 : ((spec_has.f k1 (rdOf ByteArray.empty l0 x10_1) (⟨#[34]⟩ : ByteArray)).bind fun t135 => (if t135 = true then ((spec_quoted.f k1 (rdOf ByteArray.empty l0 x10_1)).bind fun t136 => (if x9_1.length < 8796093022208 then (spec_TsvRow.l0 k1 l0 a1 a2 a3 (x9_1 ++ [t136]) (wrap64 (x10_1 + 1))) else (none))) else ((spec_has.f k1 (rdOf ByteArray.empty l0 x10_1) (⟨#[32, 32, 32, 32]⟩ : ByteArray)).bind fun t140 => (if t140 = true then ((spec_quoted.f k1 (rdOf ByteArray.empty l0 x10_1)).bind fun t141 => (if x9_1.length < 8796093022208 then (spec_TsvRow.l0 k1 l0 a1 a2 a3 (x9_1 ++ [t141]) (wrap64 (x10_1 + 1))) else (none))) else (if x9_1.length < 8796093022208 then (spec_TsvRow.l0 k1 l0 a1 a2 a3 (x9_1 ++ [rdOf ByteArray.empty l0 x10_1]) (wrap64 (x10_1 + 1))) else (none)))))) = some r := by rw [if_neg (show ¬ (false = true) by decide)] at H; exact H
              clear H
              have H := H1
              clear H1
              replace H := Option.bind_eq_some_iff.mp H
              obtain ⟨t135, A170, H⟩ := H
              replace H : (if t135 = true then ((spec_quoted.f k1 (rdOf ByteArray.empty l0 x10_1)).bind fun t136 => (if x9_1.length < 8796093022208 then (spec_TsvRow.l0 k1 l0 a1 a2 a3 (x9_1 ++ [t136]) (wrap64 (x10_1 + 1))) else (none))) else ((spec_has.f k1 (rdOf ByteArray.empty l0 x10_1) (⟨#[32, 32, 32, 32]⟩ : ByteArray)).bind fun t140 => (if t140 = true then ((spec_quoted.f k1 (rdOf ByteArray.empty l0 x10_1)).bind fun t141 => (if x9_1.length < 8796093022208 then (spec_TsvRow.l0 k1 l0 a1 a2 a3 (x9_1 ++ [t141]) (wrap64 (x10_1 + 1))) else (none))) else (if x9_1.length < 8796093022208 then (spec_TsvRow.l0 k1 l0 a1 a2 a3 (x9_1 ++ [rdOf ByteArray.empty l0 x10_1]) (wrap64 (x10_1 + 1))) else (none))))) = some r := H
              have A17 := Aside0.mk A170
              clear A170
              by_cases c18 : t135 = true
              · subst c18
                have H1 : ((spec_quoted.f k1 (rdOf ByteArray.empty l0 x10_1)).bind fun t136 => (if x9_1.length < 8796093022208 then (spec_TsvRow.l0 k1 l0 a1 a2 a3 (x9_1 ++ [t136]) (wrap64 (x10_1 + 1))) else (none))) = some r := by rw [if_pos rfl] at H; exact H
                clear H
                have H := H1
                clear H1
                replace H := Option.bind_eq_some_iff.mp H
                obtain ⟨t136, A190, H⟩ := H
                replace H : (if x9_1.length < 8796093022208 then (spec_TsvRow.l0 k1 l0 a1 a2 a3 (x9_1 ++ [t136]) (wrap64 (x10_1 + 1))) else (none)) = some r := H
                have A19 := Aside0.mk A190
                clear A190
                by_cases c20 : x9_1.length < 8796093022208
                · rw [if_pos c20] at H
                  have LMc20 := Aside0.mk c20
                  clear c20
                  obtain ⟨y137, hy137⟩ : ∃ y_ : List ByteArray, y_ = (x9_1 ++ [t136]) := ⟨_, rfl⟩
                  replace H : (spec_TsvRow.l0 k1 l0 a1 a2 a3 y137 (wrap64 (x10_1 + 1))) = some r := by first | (rw [hy137]; with_reducible exact H) | (have H2_ := (Option.bind_some _ _).symm.trans H; rw [hy137]; with_reducible exact H2_) | (have H2_ := (Option.bind_some _ _).symm.trans H; with_reducible exact H2_) | with_reducible exact H | (rw [hy137]; exact H) | exact H
                  have Ny137 := Aside0.mk hy137
                  clear hy137
                  have H' := Aside0.mk H
                  clear H
                  have p124 : 0 ≤ (x10_1 : Int) := of_decide_eq_true (by first | (with_reducible assumption) | assumption)
                  have q124 : x10_1 < (l0.length : Int) := of_decide_eq_true (by first | (with_reducible assumption) | assumption)
                  obtain ⟨ad124, e124, hx124_0⟩ := Kd.at_string HR0.out x10_1 p124 q124
                  cases e124
                  replace hx124_0 := (HB.out.cell (World.block_lt_of_cell? w _ hx124_0)).trans hx124_0
                  (try simp only [Go.IntWalk.toNatUp] at hx124_0)
                  replace p124 := eq_true p124
                  replace q124 := eq_true q124
                  go_wp2_with (first | ((with_reducible refine gate_callee (f := 31) rfl ?_); refine goesL_ (some 23) rfl rfl Try.func31 (by kernel_rfl) rfl #[.string (rdOf ByteArray.empty l0 x10_1), .string (⟨#[9]⟩ : ByteArray)] rfl (by (try simp only [List.map_toArray, List.map_cons, List.map_nil]); first | done | rfl | (simp only [List.length_drop, List.length_take]; rfl)) ?_; (with_reducible refine (spec_has.calls k1 (rdOf ByteArray.empty l0 x10_1) (⟨#[9]⟩ : ByteArray) false _ A7.out).mono ?_); rintro e w' ⟨rfl, ⟨nd, rfl⟩⟩; refine ⟨_, rfl, ?_⟩) | (go_at_call 31; (with_reducible refine (spec_has.calls k1 (rdOf ByteArray.empty l0 x10_1) (⟨#[10]⟩ : ByteArray) false _ A12.out).mono ?_); rintro e w' ⟨rfl, ⟨nd, rfl⟩⟩) | (go_at_call 31; (with_reducible refine (spec_has.calls k1 (rdOf ByteArray.empty l0 x10_1) (⟨#[34]⟩ : ByteArray) true _ A17.out).mono ?_); rintro e w' ⟨rfl, ⟨nd, rfl⟩⟩) | ((with_reducible refine gate_callee (f := 32) rfl ?_); refine goesL_ (some 37) rfl rfl Try.func32 (by kernel_rfl) rfl #[.string (rdOf ByteArray.empty l0 x10_1)] rfl (by (try simp only [List.map_toArray, List.map_cons, List.map_nil]); first | done | rfl | (simp only [List.length_drop, List.length_take]; rfl)) ?_; (with_reducible refine (spec_quoted.calls k1 (rdOf ByteArray.empty l0 x10_1) t136 _ A19.out).mono ?_); rintro e w' ⟨rfl, ⟨nd, rfl⟩⟩; refine ⟨_, rfl, ?_⟩) | ((with_reducible refine gate_builtin (b := .append) (xs := #[.tmp 38, .tmp 40]) rfl ?_); at_builtin; refine Kd.R_append Kd.string (w0 := w) w.heap.size rfl (.tmp 38) (.tmp 40) 34 9 (.string ⟨#[]⟩) 16 rfl Try.underlying34 info9 rfl (by decide) (by omega) u9 x9_1 t136 [.string t136] (fun _ => True) (fun _ => False) rfl rfl ?aP (fun _ hk => hk.elim) ?aF ?aO ?aB ?aS ?aL ?_; (case aP => exact rfl); (case aB => exact (by repeat (first | (with_reducible first | exact HB.out | apply below_alloc | apply pw_below_drewN | apply below_drew1) | exact HB.out))); (case aF => exact (fun _ _ => trivial)); (case aO => exact (by (with_reducible repeat (first | apply Kd.R_alloc | apply Kd.R_drewN | apply Kd.R_drew)); exact HO_9.out)); (case aS => exact (below_size (by repeat (first | (with_reducible first | exact HB.out | apply below_alloc | apply pw_below_drewN | apply below_drew1) | exact HB.out)))); (case aL => have := LMc20.out; omega); intro v138 w21 ho hb hg hat; rw [← Ny137.out] at ho; have n0_ := Aside0.mk (hb); have n1_ := Aside0.mk (ho); clear HB; clear HO_9; have HB := n0_; have HO139 := n1_; clear n0_ n1_; clear ho hb hg hat))
                  go_roundg k1
                  case measure => have := HK1.out; omega
                  case rel => exact ⟨(y137), (wrap64 (x10_1 + 1)), (by first | rfl | (simp; done) | (simp [*]; done)), H', ⟨by have := HK1.out; omega⟩, ⟨by (with_reducible repeat (first | apply Kd.R_alloc | apply Kd.R_drewN | apply Kd.R_drew)); exact HO139.out⟩, ⟨by repeat (first | (with_reducible first | exact HB.out | apply below_alloc | apply pw_below_drewN | apply below_drew1) | exact HB.out)⟩⟩
                · rw [if_neg c20] at H
                  exact absurd H (by simp)
              · replace c18 := Bool.eq_false_iff.mpr c18
                subst c18
                have H1 : ((spec_has.f k1 (rdOf ByteArray.empty l0 x10_1) (⟨#[32, 32, 32, 32]⟩ : ByteArray)).bind fun t140 => (if t140 = true then ((spec_quoted.f k1 (rdOf ByteArray.empty l0 x10_1)).bind fun t141 => (if x9_1.length < 8796093022208 then (spec_TsvRow.l0 k1 l0 a1 a2 a3 (x9_1 ++ [t141]) (wrap64 (x10_1 + 1))) else (none))) else (if x9_1.length < 8796093022208 then (spec_TsvRow.l0 k1 l0 a1 a2 a3 (x9_1 ++ [rdOf ByteArray.empty l0 x10_1]) (wrap64 (x10_1 + 1))) else (none)))) = some r := by rw [if_neg (show ¬ (false = true) by decide)] at H; exact H
                clear H
                have H := H1
                clear H1
                replace H := Option.bind_eq_some_iff.mp H
                obtain ⟨t140, A220, H⟩ := H
                replace H : (if t140 = true then ((spec_quoted.f k1 (rdOf ByteArray.empty l0 x10_1)).bind fun t141 => (if x9_1.length < 8796093022208 then (spec_TsvRow.l0 k1 l0 a1 a2 a3 (x9_1 ++ [t141]) (wrap64 (x10_1 + 1))) else (none))) else (if x9_1.length < 8796093022208 then (spec_TsvRow.l0 k1 l0 a1 a2 a3 (x9_1 ++ [rdOf ByteArray.empty l0 x10_1]) (wrap64 (x10_1 + 1))) else (none))) = some r := H
                have A22 := Aside0.mk A220
                clear A220
                by_cases c23 : t140 = true
                · subst c23
                  have H1 : ((spec_quoted.f k1 (rdOf ByteArray.empty l0 x10_1)).bind fun t141 => (if x9_1.length < 8796093022208 then (spec_TsvRow.l0 k1 l0 a1 a2 a3 (x9_1 ++ [t141]) (wrap64 (x10_1 + 1))) else (none))) = some r := by rw [if_pos rfl] at H; exact H
                  clear H
                  have H := H1
                  clear H1
                  replace H := Option.bind_eq_some_iff.mp H
                  obtain ⟨t141, A240, H⟩ := H
                  replace H : (if x9_1.length < 8796093022208 then (spec_TsvRow.l0 k1 l0 a1 a2 a3 (x9_1 ++ [t141]) (wrap64 (x10_1 + 1))) else (none)) = some r := H
                  have A24 := Aside0.mk A240
                  clear A240
                  by_cases c25 : x9_1.length < 8796093022208
                  · rw [if_pos c25] at H
                    have LMc25 := Aside0.mk c25
                    clear c25
                    obtain ⟨y142, hy142⟩ : ∃ y_ : List ByteArray, y_ = (x9_1 ++ [t141]) := ⟨_, rfl⟩
                    replace H : (spec_TsvRow.l0 k1 l0 a1 a2 a3 y142 (wrap64 (x10_1 + 1))) = some r := by first | (rw [hy142]; with_reducible exact H) | (have H2_ := (Option.bind_some _ _).symm.trans H; rw [hy142]; with_reducible exact H2_) | (have H2_ := (Option.bind_some _ _).symm.trans H; with_reducible exact H2_) | with_reducible exact H | (rw [hy142]; exact H) | exact H
                    have Ny142 := Aside0.mk hy142
                    clear hy142
                    have H' := Aside0.mk H
                    clear H
                    have p124 : 0 ≤ (x10_1 : Int) := of_decide_eq_true (by first | (with_reducible assumption) | assumption)
                    have q124 : x10_1 < (l0.length : Int) := of_decide_eq_true (by first | (with_reducible assumption) | assumption)
                    obtain ⟨ad124, e124, hx124_0⟩ := Kd.at_string HR0.out x10_1 p124 q124
                    cases e124
                    replace hx124_0 := (HB.out.cell (World.block_lt_of_cell? w _ hx124_0)).trans hx124_0
                    (try simp only [Go.IntWalk.toNatUp] at hx124_0)
                    replace p124 := eq_true p124
                    replace q124 := eq_true q124
                    go_wp2_with (first | ((with_reducible refine gate_callee (f := 31) rfl ?_); refine goesL_ (some 23) rfl rfl Try.func31 (by kernel_rfl) rfl #[.string (rdOf ByteArray.empty l0 x10_1), .string (⟨#[9]⟩ : ByteArray)] rfl (by (try simp only [List.map_toArray, List.map_cons, List.map_nil]); first | done | rfl | (simp only [List.length_drop, List.length_take]; rfl)) ?_; (with_reducible refine (spec_has.calls k1 (rdOf ByteArray.empty l0 x10_1) (⟨#[9]⟩ : ByteArray) false _ A7.out).mono ?_); rintro e w' ⟨rfl, ⟨nd, rfl⟩⟩; refine ⟨_, rfl, ?_⟩) | (go_at_call 31; (with_reducible refine (spec_has.calls k1 (rdOf ByteArray.empty l0 x10_1) (⟨#[10]⟩ : ByteArray) false _ A12.out).mono ?_); rintro e w' ⟨rfl, ⟨nd, rfl⟩⟩) | (go_at_call 31; (with_reducible refine (spec_has.calls k1 (rdOf ByteArray.empty l0 x10_1) (⟨#[34]⟩ : ByteArray) false _ A17.out).mono ?_); rintro e w' ⟨rfl, ⟨nd, rfl⟩⟩) | (go_at_call 31; (with_reducible refine (spec_has.calls k1 (rdOf ByteArray.empty l0 x10_1) (⟨#[32, 32, 32, 32]⟩ : ByteArray) true _ A22.out).mono ?_); rintro e w' ⟨rfl, ⟨nd, rfl⟩⟩) | ((with_reducible refine gate_callee (f := 32) rfl ?_); refine goesL_ (some 37) rfl rfl Try.func32 (by kernel_rfl) rfl #[.string (rdOf ByteArray.empty l0 x10_1)] rfl (by (try simp only [List.map_toArray, List.map_cons, List.map_nil]); first | done | rfl | (simp only [List.length_drop, List.length_take]; rfl)) ?_; (with_reducible refine (spec_quoted.calls k1 (rdOf ByteArray.empty l0 x10_1) t141 _ A24.out).mono ?_); rintro e w' ⟨rfl, ⟨nd, rfl⟩⟩; refine ⟨_, rfl, ?_⟩) | ((with_reducible refine gate_builtin (b := .append) (xs := #[.tmp 38, .tmp 40]) rfl ?_); at_builtin; refine Kd.R_append Kd.string (w0 := w) w.heap.size rfl (.tmp 38) (.tmp 40) 34 9 (.string ⟨#[]⟩) 16 rfl Try.underlying34 info9 rfl (by decide) (by omega) u9 x9_1 t141 [.string t141] (fun _ => True) (fun _ => False) rfl rfl ?aP (fun _ hk => hk.elim) ?aF ?aO ?aB ?aS ?aL ?_; (case aP => exact rfl); (case aB => exact (by repeat (first | (with_reducible first | exact HB.out | apply below_alloc | apply pw_below_drewN | apply below_drew1) | exact HB.out))); (case aF => exact (fun _ _ => trivial)); (case aO => exact (by (with_reducible repeat (first | apply Kd.R_alloc | apply Kd.R_drewN | apply Kd.R_drew)); exact HO_9.out)); (case aS => exact (below_size (by repeat (first | (with_reducible first | exact HB.out | apply below_alloc | apply pw_below_drewN | apply below_drew1) | exact HB.out)))); (case aL => have := LMc25.out; omega); intro v143 w26 ho hb hg hat; rw [← Ny142.out] at ho; have n0_ := Aside0.mk (hb); have n1_ := Aside0.mk (ho); clear HB; clear HO_9; have HB := n0_; have HO144 := n1_; clear n0_ n1_; clear ho hb hg hat))
                    go_roundg k1
                    case measure => have := HK1.out; omega
                    case rel => exact ⟨(y142), (wrap64 (x10_1 + 1)), (by first | rfl | (simp; done) | (simp [*]; done)), H', ⟨by have := HK1.out; omega⟩, ⟨by (with_reducible repeat (first | apply Kd.R_alloc | apply Kd.R_drewN | apply Kd.R_drew)); exact HO144.out⟩, ⟨by repeat (first | (with_reducible first | exact HB.out | apply below_alloc | apply pw_below_drewN | apply below_drew1) | exact HB.out)⟩⟩
                  · rw [if_neg c25] at H
                    exact absurd H (by simp)
                · replace c23 := Bool.eq_false_iff.mpr c23
                  subst c23
                  have H1 : (if x9_1.length < 8796093022208 then (spec_TsvRow.l0 k1 l0 a1 a2 a3 (x9_1 ++ [rdOf ByteArray.empty l0 x10_1]) (wrap64 (x10_1 + 1))) else (none)) = some r := by rw [if_neg (show ¬ (false = true) by decide)] at H; exact H
                  clear H
                  have H := H1
                  clear H1
                  by_cases c27 : x9_1.length < 8796093022208
                  · rw [if_pos c27] at H
                    have LMc27 := Aside0.mk c27
                    clear c27
                    obtain ⟨y145, hy145⟩ : ∃ y_ : List ByteArray, y_ = (x9_1 ++ [rdOf ByteArray.empty l0 x10_1]) := ⟨_, rfl⟩
                    replace H : (spec_TsvRow.l0 k1 l0 a1 a2 a3 y145 (wrap64 (x10_1 + 1))) = some r := by first | (rw [hy145]; with_reducible exact H) | (have H2_ := (Option.bind_some _ _).symm.trans H; rw [hy145]; with_reducible exact H2_) | (have H2_ := (Option.bind_some _ _).symm.trans H; with_reducible exact H2_) | with_reducible exact H | (rw [hy145]; exact H) | exact H
                    have Ny145 := Aside0.mk hy145
                    clear hy145
                    have H' := Aside0.mk H
                    clear H
                    have p124 : 0 ≤ (x10_1 : Int) := of_decide_eq_true (by first | (with_reducible assumption) | assumption)
                    have q124 : x10_1 < (l0.length : Int) := of_decide_eq_true (by first | (with_reducible assumption) | assumption)
                    obtain ⟨ad124, e124, hx124_0⟩ := Kd.at_string HR0.out x10_1 p124 q124
                    cases e124
                    replace hx124_0 := (HB.out.cell (World.block_lt_of_cell? w _ hx124_0)).trans hx124_0
                    (try simp only [Go.IntWalk.toNatUp] at hx124_0)
                    replace p124 := eq_true p124
                    replace q124 := eq_true q124
                    go_wp2_with (first | ((with_reducible refine gate_callee (f := 31) rfl ?_); refine goesL_ (some 23) rfl rfl Try.func31 (by kernel_rfl) rfl #[.string (rdOf ByteArray.empty l0 x10_1), .string (⟨#[9]⟩ : ByteArray)] rfl (by (try simp only [List.map_toArray, List.map_cons, List.map_nil]); first | done | rfl | (simp only [List.length_drop, List.length_take]; rfl)) ?_; (with_reducible refine (spec_has.calls k1 (rdOf ByteArray.empty l0 x10_1) (⟨#[9]⟩ : ByteArray) false _ A7.out).mono ?_); rintro e w' ⟨rfl, ⟨nd, rfl⟩⟩; refine ⟨_, rfl, ?_⟩) | (go_at_call 31; (with_reducible refine (spec_has.calls k1 (rdOf ByteArray.empty l0 x10_1) (⟨#[10]⟩ : ByteArray) false _ A12.out).mono ?_); rintro e w' ⟨rfl, ⟨nd, rfl⟩⟩) | (go_at_call 31; (with_reducible refine (spec_has.calls k1 (rdOf ByteArray.empty l0 x10_1) (⟨#[34]⟩ : ByteArray) false _ A17.out).mono ?_); rintro e w' ⟨rfl, ⟨nd, rfl⟩⟩) | (go_at_call 31; (with_reducible refine (spec_has.calls k1 (rdOf ByteArray.empty l0 x10_1) (⟨#[32, 32, 32, 32]⟩ : ByteArray) false _ A22.out).mono ?_); rintro e w' ⟨rfl, ⟨nd, rfl⟩⟩) | ((with_reducible refine gate_builtin (b := .append) (xs := #[.tmp 38, .tmp 40]) rfl ?_); at_builtin; refine Kd.R_append Kd.string (w0 := w) w.heap.size rfl (.tmp 38) (.tmp 40) 34 9 (.string ⟨#[]⟩) 16 rfl Try.underlying34 info9 rfl (by decide) (by omega) u9 x9_1 (rdOf ByteArray.empty l0 x10_1) [.string (rdOf ByteArray.empty l0 x10_1)] (fun _ => True) (fun _ => False) rfl rfl ?aP (fun _ hk => hk.elim) ?aF ?aO ?aB ?aS ?aL ?_; (case aP => exact rfl); (case aB => exact (by repeat (first | (with_reducible first | exact HB.out | apply below_alloc | apply pw_below_drewN | apply below_drew1) | exact HB.out))); (case aF => exact (fun _ _ => trivial)); (case aO => exact (by (with_reducible repeat (first | apply Kd.R_alloc | apply Kd.R_drewN | apply Kd.R_drew)); exact HO_9.out)); (case aS => exact (below_size (by repeat (first | (with_reducible first | exact HB.out | apply below_alloc | apply pw_below_drewN | apply below_drew1) | exact HB.out)))); (case aL => have := LMc27.out; omega); intro v146 w28 ho hb hg hat; rw [← Ny145.out] at ho; have n0_ := Aside0.mk (hb); have n1_ := Aside0.mk (ho); clear HB; clear HO_9; have HB := n0_; have HO147 := n1_; clear n0_ n1_; clear ho hb hg hat))
                    go_roundg k1
                    case measure => have := HK1.out; omega
                    case rel => exact ⟨(y145), (wrap64 (x10_1 + 1)), (by first | rfl | (simp; done) | (simp [*]; done)), H', ⟨by have := HK1.out; omega⟩, ⟨by (with_reducible repeat (first | apply Kd.R_alloc | apply Kd.R_drewN | apply Kd.R_drew)); exact HO147.out⟩, ⟨by repeat (first | (with_reducible first | exact HB.out | apply below_alloc | apply pw_below_drewN | apply below_drew1) | exact HB.out)⟩⟩
                  · rw [if_neg c27] at H
                    exact absurd H (by simp)
        · rw [if_neg c6] at H
          exact absurd H (by simp)
      · rw [if_neg c5] at H
        have c5b0 : decide (x10_1 < (l0.length : Int)) = false := decide_eq_false c5
        clear c5
        replace H := Option.bind_eq_some_iff.mp H
        obtain ⟨t123, A290, H⟩ := H
        replace H : (some t123) = some r := H
        have A29 := Aside0.mk A290
        clear A290
        obtain rfl := Option.some.inj H
        obtain ⟨Ao30, co30, eo30⟩ := Kd.R_slice HO_9.out
        subst eo30
        go_wp2_with (first | ((with_reducible refine gate_callee (f := 33) rfl ?_); refine goesL_ (some 46) rfl rfl Try.func33 (by kernel_rfl) rfl #[.slice Ao30 x9_1.length co30, .int .i64 a1, .string (⟨#[9]⟩ : ByteArray), .bool a2, .int .i64 a3] rfl (by (try simp only [List.map_toArray, List.map_cons, List.map_nil]); first | done | rfl | (simp only [List.length_drop, List.length_take]; rfl)) ?_; (with_reducible refine (spec_separated.calls k1 _ _ x9_1 a1 (⟨#[9]⟩ : ByteArray) a2 a3 t123 _ ?side1 ?side2 A29.out).mono ?_); (case side1 => repeat (first | exact (Kd.R_reads' HO_9.out).2.2 | (with_reducible refine Kd.C_alloc ?_ _) | (with_reducible refine Kd.C_drewN ?_ _) | (with_reducible refine Kd.C_drew ?_))); (case side2 => exact (Kd.R_reads' HO_9.out).2.1); rintro e w31 ⟨rfl, hb⟩; refine ⟨_, rfl, ?_⟩; have n0_ := Aside0.mk (Kd.R_below (by (with_reducible repeat (first | apply Kd.R_alloc | apply Kd.R_drewN | apply Kd.R_drew)); exact HO_9.out) hb); have n1_ := Aside0.mk (below_step (by repeat (first | (with_reducible first | exact HB.out | apply below_alloc | apply pw_below_drewN | apply below_drew1) | exact HB.out)) hb); clear HO_9; clear HB; have HO_9 := n0_; have HB := n1_; clear n0_ n1_; (try clear hb); (try clear hb2); (try clear hk); (try clear hi)))
        go_ret
        exact ⟨by first | rfl | (simp [errW_none, errW_some] <;> rfl) | (simp [*, errW_none, errW_some] <;> rfl), by repeat (first | (with_reducible first | exact HB.out | apply below_alloc | apply pw_below_drewN | apply below_drew1) | exact HB.out)⟩

/-! ### laws_FnTsvRow: function 5 -/
def laws_FnTsvRow.j0 : Nat → List ByteArray → Int → Bool → Int → Bool → Option (Bool)
  | 0, _, _, _, _, _ => none
  | k + 1, x0, x1, x2, x3, x22 => if x22 = true then (some true) else ((impl_TsvRow.f k x0 x1 x2 x3).bind fun t150 => ((spec_TsvRow.f k x0 x1 x2 x3).bind fun t151 => (some (t150.toList == t151.toList))))
def laws_FnTsvRow.f (k : Nat) (l0 : List ByteArray) (a1 : Int) (a2 : Bool) (a3 : Int) : Option (Bool) := (laws_zzFits4.f k l0).bind fun t148 => (if t148 = true then ((laws_texts.f k l0 2000).bind fun t149 => (if t149 = true then (if a1 < 0 then (laws_FnTsvRow.j0 k l0 a1 a2 a3 true) else (laws_FnTsvRow.j0 k l0 a1 a2 a3 (decide (a1 > 300)))) else (laws_FnTsvRow.j0 k l0 a1 a2 a3 true))) else (some true))
theorem laws_FnTsvRow.mono_l : ∀ k, (∀ y0 y1 y2 y3 y4, LeO (laws_FnTsvRow.j0 k y0 y1 y2 y3 y4) (laws_FnTsvRow.j0 (k + 1) y0 y1 y2 y3 y4))
  | 0 => fun _ _ _ _ _ r h => by simp [laws_FnTsvRow.j0] at h
  | k + 1 => by
    have ih0 := laws_FnTsvRow.mono_l k
    · intro y0 y1 y2 y3 y4
      unfold laws_FnTsvRow.j0
      repeat' first
      | (with_reducible exact ih0 _ _ _ _ _)
      | (with_reducible exact impl_TsvRow.mono _ _ _ _ _)
      | (with_reducible exact laws_texts.mono _ _ _)
      | (with_reducible exact laws_zzFits4.mono _ _)
      | (with_reducible exact spec_TsvRow.mono _ _ _ _ _)
      | (with_reducible exact LeO.refl _)
      | (with_reducible exact LeO.none _)
      | (with_reducible refine LeO.ite ?_ ?_)
      | (with_reducible refine LeO.bind ?_ (fun _ => ?_))
      | exact ih0 _ _ _ _ _
      | exact impl_TsvRow.mono _ _ _ _ _
      | exact laws_texts.mono _ _ _
      | exact laws_zzFits4.mono _ _
      | exact spec_TsvRow.mono _ _ _ _ _
      | exact LeO.none _
      | refine LeO.ite ?_ ?_
      | refine LeO.bind ?_ (fun _ => ?_)
theorem laws_FnTsvRow.mono : ∀ a0 a1 a2 a3 k, LeO (laws_FnTsvRow.f k a0 a1 a2 a3) (laws_FnTsvRow.f (k + 1) a0 a1 a2 a3) := by
  intro a0 a1 a2 a3 k
  have ih0 := laws_FnTsvRow.mono_l k
  unfold laws_FnTsvRow.f
  repeat' first
      | (with_reducible exact ih0 _ _ _ _ _)
      | (with_reducible exact impl_TsvRow.mono _ _ _ _ _)
      | (with_reducible exact laws_texts.mono _ _ _)
      | (with_reducible exact laws_zzFits4.mono _ _)
      | (with_reducible exact spec_TsvRow.mono _ _ _ _ _)
      | (with_reducible exact LeO.refl _)
      | (with_reducible exact LeO.none _)
      | (with_reducible refine LeO.ite ?_ ?_)
      | (with_reducible refine LeO.bind ?_ (fun _ => ?_))
      | exact ih0 _ _ _ _ _
      | exact impl_TsvRow.mono _ _ _ _ _
      | exact laws_texts.mono _ _ _
      | exact laws_zzFits4.mono _ _
      | exact spec_TsvRow.mono _ _ _ _ _
      | exact LeO.none _
      | refine LeO.ite ?_ ?_
      | refine LeO.bind ?_ (fun _ => ?_)
set_option maxHeartbeats 8000000 in
set_option maxRecDepth 100000 in
theorem laws_FnTsvRow.calls (k : Nat) (A0 : Option Addr) (c0 : Nat) (l0 : List ByteArray) (a1 : Int) (a2 : Bool) (a3 : Int) (r : Bool) (w : World) (hr0 : Kd.C Kd.string w A0 l0.length l0) (hc0 : l0.length ≤ c0) (h : laws_FnTsvRow.f k l0 a1 a2 a3 = some r) :
    Calls Try.prog 5 #[.slice A0 l0.length c0, .int .i64 a1, .bool a2, .int .i64 a3] w fun e w' => e = .returned (.bool r) ∧ Below w.heap.size w w' := by
  have HR0 := Aside0.mk hr0
  have HC0 := Aside0.mk hc0
  clear hr0 hc0
  have HB := Aside0.mk (Below.refl w.heap.size w)
  have H : ((laws_zzFits4.f k l0).bind fun t148 => (if t148 = true then ((laws_texts.f k l0 2000).bind fun t149 => (if t149 = true then (if a1 < 0 then (laws_FnTsvRow.j0 k l0 a1 a2 a3 true) else (laws_FnTsvRow.j0 k l0 a1 a2 a3 (decide (a1 > 300)))) else (laws_FnTsvRow.j0 k l0 a1 a2 a3 true))) else (some true))) = some r := h
  clear h
  replace H := Option.bind_eq_some_iff.mp H
  obtain ⟨t148, A50, H⟩ := H
  replace H : (if t148 = true then ((laws_texts.f k l0 2000).bind fun t149 => (if t149 = true then (if a1 < 0 then (laws_FnTsvRow.j0 k l0 a1 a2 a3 true) else (laws_FnTsvRow.j0 k l0 a1 a2 a3 (decide (a1 > 300)))) else (laws_FnTsvRow.j0 k l0 a1 a2 a3 true))) else (some true)) = some r := H
  have A5 := Aside0.mk A50
  clear A50
  by_cases c6 : t148 = true
  · subst c6
    have H1 : ((laws_texts.f k l0 2000).bind fun t149 => (if t149 = true then (if a1 < 0 then (laws_FnTsvRow.j0 k l0 a1 a2 a3 true) else (laws_FnTsvRow.j0 k l0 a1 a2 a3 (decide (a1 > 300)))) else (laws_FnTsvRow.j0 k l0 a1 a2 a3 true))) = some r := by rw [if_pos rfl] at H; exact H
    clear H
    have H := H1
    clear H1
    have HC7 := Aside0.mk H
    clear H
    go_enter Try.func5, Try.ntmps5
    go_upto_region 3 with (first | ((with_reducible refine gate_callee (f := 13) rfl ?_); refine goesL_ (some 10) rfl rfl Try.func13 (by kernel_rfl) rfl #[.slice A0 l0.length c0] rfl (by (try simp only [List.map_toArray, List.map_cons, List.map_nil]); first | done | rfl | (simp only [List.length_drop, List.length_take]; rfl)) ?_; (with_reducible refine (laws_zzFits4.calls k _ _ l0 true _ ?side1 ?side2 A5.out).mono ?_); (case side1 => repeat (first | exact HR0.out | (with_reducible refine Kd.C_alloc ?_ _) | (with_reducible refine Kd.C_drewN ?_ _) | (with_reducible refine Kd.C_drew ?_))); (case side2 => exact HC0.out); rintro e w' ⟨rfl, ⟨nd, rfl⟩⟩; refine ⟨_, rfl, ?_⟩))
    (try simp only [Act.put, List.setIfInBounds_toArray, List.set_cons_zero, List.set_cons_succ])
    go_cut [22] (fun v22 wc => ∃ (kq : Nat) (x22_6 : Bool), v22 = .bool x22_6 ∧ Aside0 (laws_FnTsvRow.j0 kq l0 a1 a2 a3 x22_6 = some r) ∧ Aside0 (kq ≤ k) ∧ Aside0 (Below w.heap.size w wc))
    case first =>
      have H := HC7.out
      clear HC7
      replace H := Option.bind_eq_some_iff.mp H
      obtain ⟨t149, A80, H⟩ := H
      replace H : (if t149 = true then (if a1 < 0 then (laws_FnTsvRow.j0 k l0 a1 a2 a3 true) else (laws_FnTsvRow.j0 k l0 a1 a2 a3 (decide (a1 > 300)))) else (laws_FnTsvRow.j0 k l0 a1 a2 a3 true)) = some r := H
      have A8 := Aside0.mk A80
      clear A80
      by_cases c9 : t149 = true
      · subst c9
        have H1 : (if a1 < 0 then (laws_FnTsvRow.j0 k l0 a1 a2 a3 true) else (laws_FnTsvRow.j0 k l0 a1 a2 a3 (decide (a1 > 300)))) = some r := by rw [if_pos rfl] at H; exact H
        clear H
        have H := H1
        clear H1
        by_cases c10 : a1 < 0
        · rw [if_pos c10] at H
          have c10b0 : decide (a1 < 0) = true := decide_eq_true c10
          clear c10
          (first | rw [c10b0] | (simp only [i64_w, i32_w]; rw [c10b0]) | skip)
          have H' := Aside0.mk H
          clear H
          go_wp2_with (first | ((with_reducible refine gate_callee (f := 14) rfl ?_); refine goesL_ (some 13) rfl rfl Try.func14 (by kernel_rfl) rfl #[.slice A0 l0.length c0, .int .i64 2000] rfl (by (try simp only [List.map_toArray, List.map_cons, List.map_nil]); first | done | rfl | (simp only [List.length_drop, List.length_take]; rfl)) ?_; (with_reducible refine (laws_texts.calls k _ _ l0 2000 true _ ?side1 ?side2 A8.out).mono ?_); (case side1 => repeat (first | exact (Kd.C_below HR0.out HB.out) | (with_reducible refine Kd.C_alloc ?_ _) | (with_reducible refine Kd.C_drewN ?_ _) | (with_reducible refine Kd.C_drew ?_))); (case side2 => exact HC0.out); rintro e w' ⟨rfl, ⟨nd, rfl⟩⟩; refine ⟨_, rfl, ?_⟩))
          go_meet
          case rel => exact ⟨_, (true), (by first | rfl | (simp; done) | (simp [*]; done)), H', ⟨by first | omega | exact Nat.le_refl _⟩, ⟨by repeat (first | (with_reducible first | exact HB.out | apply below_alloc | apply pw_below_drewN | apply below_drew1) | exact HB.out)⟩⟩
        · rw [if_neg c10] at H
          have c10b0 : decide (a1 < 0) = false := decide_eq_false c10
          clear c10
          (first | rw [c10b0] | (simp only [i64_w, i32_w]; rw [c10b0]) | skip)
          have H' := Aside0.mk H
          clear H
          go_wp2_with (first | ((with_reducible refine gate_callee (f := 14) rfl ?_); refine goesL_ (some 13) rfl rfl Try.func14 (by kernel_rfl) rfl #[.slice A0 l0.length c0, .int .i64 2000] rfl (by (try simp only [List.map_toArray, List.map_cons, List.map_nil]); first | done | rfl | (simp only [List.length_drop, List.length_take]; rfl)) ?_; (with_reducible refine (laws_texts.calls k _ _ l0 2000 true _ ?side1 ?side2 A8.out).mono ?_); (case side1 => repeat (first | exact (Kd.C_below HR0.out HB.out) | (with_reducible refine Kd.C_alloc ?_ _) | (with_reducible refine Kd.C_drewN ?_ _) | (with_reducible refine Kd.C_drew ?_))); (case side2 => exact HC0.out); rintro e w' ⟨rfl, ⟨nd, rfl⟩⟩; refine ⟨_, rfl, ?_⟩))
          go_meet
          case rel => exact ⟨_, (decide (a1 > 300)), (by first | rfl | (simp; done) | (simp [*]; done)), H', ⟨by first | omega | exact Nat.le_refl _⟩, ⟨by repeat (first | (with_reducible first | exact HB.out | apply below_alloc | apply pw_below_drewN | apply below_drew1) | exact HB.out)⟩⟩
      · replace c9 := Bool.eq_false_iff.mpr c9
        subst c9
        have H1 : (laws_FnTsvRow.j0 k l0 a1 a2 a3 true) = some r := by rw [if_neg (show ¬ (false = true) by decide)] at H; exact H
        clear H
        have H := H1
        clear H1
        have H' := Aside0.mk H
        clear H
        go_wp2_with (first | ((with_reducible refine gate_callee (f := 14) rfl ?_); refine goesL_ (some 13) rfl rfl Try.func14 (by kernel_rfl) rfl #[.slice A0 l0.length c0, .int .i64 2000] rfl (by (try simp only [List.map_toArray, List.map_cons, List.map_nil]); first | done | rfl | (simp only [List.length_drop, List.length_take]; rfl)) ?_; (with_reducible refine (laws_texts.calls k _ _ l0 2000 false _ ?side1 ?side2 A8.out).mono ?_); (case side1 => repeat (first | exact (Kd.C_below HR0.out HB.out) | (with_reducible refine Kd.C_alloc ?_ _) | (with_reducible refine Kd.C_drewN ?_ _) | (with_reducible refine Kd.C_drew ?_))); (case side2 => exact HC0.out); rintro e w' ⟨rfl, ⟨nd, rfl⟩⟩; refine ⟨_, rfl, ?_⟩))
        go_meet
        case rel => exact ⟨_, (true), (by first | rfl | (simp; done) | (simp [*]; done)), H', ⟨by first | omega | exact Nat.le_refl _⟩, ⟨by repeat (first | (with_reducible first | exact HB.out | apply below_alloc | apply pw_below_drewN | apply below_drew1) | exact HB.out)⟩⟩
    case rest =>
      clear HC7
      try clear c1
      try clear p2
      try clear c5
      try clear c6
      try clear c9
      try clear c10
      try clear c10b0
      obtain ⟨kq, x22_6, rfl, HA, HJ6, HB⟩ := hcut
      cases kq with
      | zero => exact absurd HA.out (by simp [laws_FnTsvRow.j0])
      | succ kj6 =>
        have H := HA.out
        clear HA
        simp only [laws_FnTsvRow.j0] at H
        by_cases c11 : x22_6 = true
        · subst c11
          have H1 : (some true) = some r := by rw [if_pos rfl] at H; exact H
          clear H
          have H := H1
          clear H1
          obtain rfl := Option.some.inj H
          go_wp2
          go_ret
          exact ⟨by first | rfl | (simp [errW_none, errW_some] <;> rfl) | (simp [*, errW_none, errW_some] <;> rfl), by repeat (first | (with_reducible first | exact HB.out | apply below_alloc | apply pw_below_drewN | apply below_drew1) | exact HB.out)⟩
        · replace c11 := Bool.eq_false_iff.mpr c11
          subst c11
          have H1 : ((impl_TsvRow.f kj6 l0 a1 a2 a3).bind fun t150 => ((spec_TsvRow.f kj6 l0 a1 a2 a3).bind fun t151 => (some (t150.toList == t151.toList)))) = some r := by rw [if_neg (show ¬ (false = true) by decide)] at H; exact H
          clear H
          have H := H1
          clear H1
          replace H := Option.bind_eq_some_iff.mp H
          obtain ⟨t150, A120, H⟩ := H
          replace H : ((spec_TsvRow.f kj6 l0 a1 a2 a3).bind fun t151 => (some (t150.toList == t151.toList))) = some r := H
          have A12 := Aside0.mk A120
          clear A120
          replace H := Option.bind_eq_some_iff.mp H
          obtain ⟨t151, A130, H⟩ := H
          replace H : (some (t150.toList == t151.toList)) = some r := H
          have A13 := Aside0.mk A130
          clear A130
          obtain rfl := Option.some.inj H
          go_wp2_with (first | ((with_reducible refine gate_callee (f := 15) rfl ?_); refine goesL_ (some 27) rfl rfl Try.func15 (by kernel_rfl) rfl #[.slice A0 l0.length c0, .int .i64 a1, .bool a2, .int .i64 a3] rfl (by (try simp only [List.map_toArray, List.map_cons, List.map_nil]); first | done | rfl | (simp only [List.length_drop, List.length_take]; rfl)) ?_; (with_reducible refine (impl_TsvRow.calls kj6 _ _ l0 a1 a2 a3 t150 _ ?side1 ?side2 A12.out).mono ?_); (case side1 => repeat (first | exact (Kd.C_below HR0.out HB.out) | (with_reducible refine Kd.C_alloc ?_ _) | (with_reducible refine Kd.C_drewN ?_ _) | (with_reducible refine Kd.C_drew ?_))); (case side2 => exact HC0.out); rintro e w14 ⟨rfl, hb⟩; refine ⟨_, rfl, ?_⟩; have n0_ := Aside0.mk (below_step (by repeat (first | (with_reducible first | exact HB.out | apply below_alloc | apply pw_below_drewN | apply below_drew1) | exact HB.out)) hb); clear HB; have HB := n0_; clear n0_; (try clear hb); (try clear hb2); (try clear hk); (try clear hi)) | ((with_reducible refine gate_callee (f := 16) rfl ?_); refine goesL_ (some 32) rfl rfl Try.func16 (by kernel_rfl) rfl #[.slice A0 l0.length c0, .int .i64 a1, .bool a2, .int .i64 a3] rfl (by (try simp only [List.map_toArray, List.map_cons, List.map_nil]); first | done | rfl | (simp only [List.length_drop, List.length_take]; rfl)) ?_; (with_reducible refine (spec_TsvRow.calls kj6 _ _ l0 a1 a2 a3 t151 _ ?side1 ?side2 A13.out).mono ?_); (case side1 => repeat (first | exact (Kd.C_below HR0.out HB.out) | (with_reducible refine Kd.C_alloc ?_ _) | (with_reducible refine Kd.C_drewN ?_ _) | (with_reducible refine Kd.C_drew ?_))); (case side2 => exact HC0.out); rintro e w15 ⟨rfl, hb⟩; refine ⟨_, rfl, ?_⟩; have n0_ := Aside0.mk (below_step (by repeat (first | (with_reducible first | exact HB.out | apply below_alloc | apply pw_below_drewN | apply below_drew1) | exact HB.out)) hb); clear HB; have HB := n0_; clear n0_; (try clear hb); (try clear hb2); (try clear hk); (try clear hi)))
          go_ret
          exact ⟨by first | rfl | (simp [errW_none, errW_some] <;> rfl) | (simp [*, errW_none, errW_some] <;> rfl), by repeat (first | (with_reducible first | exact HB.out | apply below_alloc | apply pw_below_drewN | apply below_drew1) | exact HB.out)⟩
  · replace c6 := Bool.eq_false_iff.mpr c6
    subst c6
    have H1 : (some true) = some r := by rw [if_neg (show ¬ (false = true) by decide)] at H; exact H
    clear H
    have H := H1
    clear H1
    obtain rfl := Option.some.inj H
    go_enter Try.func5, Try.ntmps5
    go_wp2_with (first | ((with_reducible refine gate_callee (f := 13) rfl ?_); refine goesL_ (some 10) rfl rfl Try.func13 (by kernel_rfl) rfl #[.slice A0 l0.length c0] rfl (by (try simp only [List.map_toArray, List.map_cons, List.map_nil]); first | done | rfl | (simp only [List.length_drop, List.length_take]; rfl)) ?_; (with_reducible refine (laws_zzFits4.calls k _ _ l0 false _ ?side1 ?side2 A5.out).mono ?_); (case side1 => repeat (first | exact HR0.out | (with_reducible refine Kd.C_alloc ?_ _) | (with_reducible refine Kd.C_drewN ?_ _) | (with_reducible refine Kd.C_drew ?_))); (case side2 => exact HC0.out); rintro e w' ⟨rfl, ⟨nd, rfl⟩⟩; refine ⟨_, rfl, ?_⟩))
    go_ret
    exact ⟨by first | rfl | (simp [errW_none, errW_some] <;> rfl) | (simp [*, errW_none, errW_some] <;> rfl), by repeat (first | (with_reducible first | exact HB.out | apply below_alloc | apply pw_below_drewN | apply below_drew1) | exact HB.out)⟩

def laws_FnTsvRow.Pure : Prop := ∀ (l0 : List ByteArray) (a1 : Int) (a2 : Bool) (a3 : Int), (l0.length * 16 ≤ 140737488351232 ∧ l0.length ≤ maxLen ∧ ∀ yl0 ∈ l0, yl0.size ≤ 140737488351232) → (Lit.int .i64 a1).wf = true → (Lit.int .i64 a3).wf = true → ∃ k, laws_FnTsvRow.f k l0 a1 a2 a3 = some true

end Go.Proofs.Ytimefacdnabkdab.PFnTsvRow
