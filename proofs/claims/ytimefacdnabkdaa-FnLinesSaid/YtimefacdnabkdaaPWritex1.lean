-- Written by hprint.py, a program of this session
import Derived.Test.YtimefacdnabkdaaPWritex0
namespace Go.Proofs.Ytimefacdnabkdaa.PWrite
open Go.RowKit Go.Proofs.YtimefacdnabkdaaW.PrintWords Go.Proofs.YtimefacdnabkdaaW.PrintLast Go.Proofs.YtimefacdnabkdaaW.PrintMore
attribute [local go_sem] max2_int min2_int max_two min_two max_three min_three max_four min_four   -- for this text's walks alone
set_option linter.unusedVariables false
set_option linter.unusedSimpArgs false

/-- A state of type 44 at block g of W; what its slices lead to came in by w0. -/
def IsS44 (w0 W : World) (g : Nat) (f0 : Int) : Prop := W.heap[g]? = some (.cells #[.int .i64 f0] 44 (0, 0)) ∧ w0.heap.size ≤ g
theorem IsS44.grown {w0 W : World} {g : Nat} {f0 : Int} {W1 : World} {row : Option Nat} (h : IsS44 w0 W g f0) (hw : W.grownBy W1 row) (hne : some g ≠ row) : IsS44 w0 W1 g f0 := by
  obtain ⟨hb, hg⟩ := h
  exact ⟨blk_grown hb hw hne, hg⟩
theorem IsS44.own_neN {w0 W : World} {g : Nat} {f0 : Int} {α : Type} {d : Kd α} {e : Nat} {base : Nat} {ok : Nat → Prop} {v : Value} {xs : List α} (h : IsS44 w0 W g f0) (ho : Kd.N d e W base ok v xs) (ht : e ≠ 44) : some g ≠ v.ownBlock := by
  obtain ⟨hb, hg⟩ := h
  exact Kd.N_ne ho hb ht
theorem IsS44.fresh {w0 W : World} {g : Nat} {f0 : Int} (h : IsS44 w0 W g f0) : ∀ k, W.heap.size ≤ k → k ≠ g := by
  obtain ⟨hb, hg⟩ := h
  exact Kd.freshB hb
theorem IsS44.kept {w0 W : World} {g : Nat} {f0 : Int} {W1 : World} {S : Nat → Prop} (h : IsS44 w0 W g f0) (hk : Kept W W1 S) (hne : ¬ S g) : IsS44 w0 W1 g f0 := by
  obtain ⟨hb, hg⟩ := h
  exact ⟨blk_kept hb hk hne, hg⟩
theorem IsS44.below {w0 W : World} {g : Nat} {f0 : Int} {W1 : World} (h : IsS44 w0 W g f0) (hw : Below W.heap.size W W1) : IsS44 w0 W1 g f0 := h.grown (grown_of_below hw none) (by simp)
theorem IsS44.alloc {w0 W : World} {g : Nat} {f0 : Int} (h : IsS44 w0 W g f0) (o : Obj) : IsS44 w0 (W.alloc o) g f0 := h.below (below_alloc (Below.refl _ _) o)
theorem IsS44.drewN {w0 W : World} {g : Nat} {f0 : Int} (h : IsS44 w0 W g f0) (m : Nat) : IsS44 w0 (W.drewN m) g f0 := h
theorem IsS44.drew {w0 W : World} {g : Nat} {f0 : Int} (h : IsS44 w0 W g f0) : IsS44 w0 W.drew g f0 := h
theorem IsS44.at_ {w0 W : World} {g : Nat} {f0 : Int} {w' : World} {m : Nat} (hq : W.drewN m = w') (h : IsS44 w0 W g f0) : IsS44 w0 w' g f0 := by subst hq; exact IsS44.drewN h m
theorem IsS44.apart {w0 W : World} {g : Nat} {f0 : Int} {α : Type} {d : Kd α} {e : Nat} {base : Nat} {ok : Nat → Prop} {v : Value} {xs : List α} (h : IsS44 w0 W g f0) (ho : d.R e W base ok v xs) (ht : ∀ q, q ∈ e :: d.E → q ≠ 44) : d.R e W base (fun k => ok k ∧ k ≠ g) v xs := by
  obtain ⟨hb, hg⟩ := h
  exact Kd.R_types ho hb ht
theorem IsS44.own_ne {w0 W : World} {g : Nat} {f0 : Int} {α : Type} {d : Kd α} {e : Nat} {base : Nat} {ok : Nat → Prop} {v : Value} {xs : List α} (h : IsS44 w0 W g f0) (ho : d.R e W base ok v xs) (ht : e ≠ 44) : some g ≠ v.ownBlock := by
  obtain ⟨hb, hg⟩ := h
  exact Kd.R_ne ho hb ht
theorem IsS44.apartQ {w0 W : World} {g : Nat} {f0 : Int} {α : Type} {d : Kd α} {e : Nat} {base : Nat} {ok : Nat → Prop} {v : Value} {xs : List α} (h : IsS44 w0 W g f0) (ho : d.Q e W base ok v xs) (ht : ∀ q, q ∈ e :: d.E → q ≠ 44) : d.Q e W base (fun k => ok k ∧ k ≠ g) v xs := by
  obtain ⟨hb, hg⟩ := h
  exact Kd.Q_types ho hb ht
theorem IsS44.own_neQ {w0 W : World} {g : Nat} {f0 : Int} {α : Type} {d : Kd α} {e : Nat} {base : Nat} {ok : Nat → Prop} {v : Value} {xs : List α} (h : IsS44 w0 W g f0) (ho : d.Q e W base ok v xs) (ht : e ≠ 44) : some g ≠ v.ownBlock := by
  obtain ⟨hb, hg⟩ := h
  exact Kd.Q_ne ho hb ht
theorem IsS44.apartS {w0 W : World} {g : Nat} {f0 : Int} {α : Type} {d : Kd α} {e : Nat} {base : Nat} {ok : Nat → Prop} {v : Value} {xs : List α} (h : IsS44 w0 W g f0) (ho : d.S e W base ok v xs) (ht : ∀ q, q ∈ e :: d.E → q ≠ 44) : d.S e W base (fun k => ok k ∧ k ≠ g) v xs := by
  obtain ⟨hb, hg⟩ := h
  exact Kd.S_types ho hb ht
theorem IsS44.own_neS {w0 W : World} {g : Nat} {f0 : Int} {α : Type} {d : Kd α} {e : Nat} {base : Nat} {ok : Nat → Prop} {v : Value} {xs : List α} (h : IsS44 w0 W g f0) (ho : d.S e W base ok v xs) (ht : e ≠ 44) : some g ≠ v.ownBlock := by
  obtain ⟨hb, hg⟩ := h
  exact Kd.S_ne ho hb ht
theorem IsS44.lt {w0 W : World} {g : Nat} {f0 : Int} (h : IsS44 w0 W g f0) : g < W.heap.size := by
  obtain ⟨hb, hg⟩ := h
  exact blk_lt hb
theorem IsS44.ge {w0 W : World} {g : Nat} {f0 : Int} (h : IsS44 w0 W g f0) : w0.heap.size ≤ g := by
  obtain ⟨hb, hg⟩ := h
  exact hg
theorem IsS44.ne_blk {w0 W : World} {g : Nat} {f0 : Int} {a : Nat} {cs : Array Value} {t : TypeId} {fr : Nat × Nat} (h : IsS44 w0 W g f0) (hb2 : W.heap[a]? = some (.cells cs t fr)) (ht : t ≠ 44) : g ≠ a := by
  obtain ⟨hb, hg⟩ := h
  rintro rfl
  rw [hb] at hb2
  injection hb2 with hb2
  injection hb2 with _ ht2
  exact ht ht2.symm
theorem IsS44.far {w0 W : World} {g : Nat} {f0 : Int} {p : Addr} (h : IsS44 w0 W g f0) (hne : g ≠ p.block) (u : Value) : IsS44 w0 (W.setCell p u) g f0 := by
  obtain ⟨hb, hg⟩ := h
  exact ⟨blk_far hb hne u, hg⟩
theorem cellS44_0 {W : World} {g : Nat} {f0 : Int} (h : W.heap[g]? = some (.cells #[.int .i64 f0] 44 (0, 0))) : W.cell? ⟨g, 0, none⟩ = some (.int .i64 f0) := (blk_cell h 0).trans rfl
theorem IsS44.set_0 {w0 W : World} {g : Nat} {f0 : Int} (h : IsS44 w0 W g f0) (x : Int) : IsS44 w0 (W.setCell ⟨g, 0, none⟩ (.int .i64 x)) g x := by
  obtain ⟨hb, hg⟩ := h
  exact ⟨by simpa using blk_set hb 0 (.int .i64 x), hg⟩
theorem IsS44.new (w0 W : World) (f0 : Int) (hB : Below w0.heap.size w0 W) : IsS44 w0 (W.alloc (.cells #[.int .i64 f0] 44)) W.heap.size f0 := ⟨by simpa using heap_alloc_new W _, hB.size⟩

/-! ### tw_LineCounter_Write: function 25 -/
def tw_LineCounter_Write.l0 : Nat → List Int → List Int → Int → Int → Int → Option (Int × Option Int × Int)
  | 0, _, _, _, _, _ => none
  | k + 1, x1, x8, x9, x10, x1000 => if x10 < x9 then (if 0 ≤ x10 then (if x10 < (x8.length : Int) then (if (rd x8 x10) = 10 then (tw_LineCounter_Write.l0 k x1 x8 x9 (wrap64 (x10 + 1)) (wrap64 (x1000 + 1))) else (tw_LineCounter_Write.l0 k x1 x8 x9 (wrap64 (x10 + 1)) x1000)) else (none)) else (none)) else (some ((x1.length : Int), none, x1000))
def tw_LineCounter_Write.f (k : Nat) (s0_0 : Int) (l1 : List Int) : Option (Int × Option Int × Int) := tw_LineCounter_Write.l0 k l1 l1 (l1.length : Int) 0 s0_0
theorem tw_LineCounter_Write.mono_l : ∀ k, (∀ y0 y1 y2 y3 y4, LeO (tw_LineCounter_Write.l0 k y0 y1 y2 y3 y4) (tw_LineCounter_Write.l0 (k + 1) y0 y1 y2 y3 y4))
  | 0 => fun _ _ _ _ _ r h => by simp [tw_LineCounter_Write.l0] at h
  | k + 1 => by
    have ih0 := tw_LineCounter_Write.mono_l k
    · intro y0 y1 y2 y3 y4
      unfold tw_LineCounter_Write.l0
      repeat' first
      | (with_reducible exact ih0 _ _ _ _ _)
      | (with_reducible exact LeO.refl _)
      | (with_reducible exact LeO.none _)
      | (with_reducible refine LeO.ite ?_ ?_)
      | (with_reducible refine LeO.bind ?_ (fun _ => ?_))
      | exact ih0 _ _ _ _ _
      | exact LeO.none _
      | refine LeO.ite ?_ ?_
      | refine LeO.bind ?_ (fun _ => ?_)
theorem tw_LineCounter_Write.mono : ∀ a0 a1 k, LeO (tw_LineCounter_Write.f k a0 a1) (tw_LineCounter_Write.f (k + 1) a0 a1) := by
  intro a0 a1 k
  have ih0 := tw_LineCounter_Write.mono_l k
  unfold tw_LineCounter_Write.f
  repeat' first
      | (with_reducible exact ih0 _ _ _ _ _)
      | (with_reducible exact LeO.refl _)
      | (with_reducible exact LeO.none _)
      | (with_reducible refine LeO.ite ?_ ?_)
      | (with_reducible refine LeO.bind ?_ (fun _ => ?_))
      | exact ih0 _ _ _ _ _
      | exact LeO.none _
      | refine LeO.ite ?_ ?_
      | refine LeO.bind ?_ (fun _ => ?_)
set_option maxHeartbeats 8000000 in
set_option maxRecDepth 100000 in
theorem tw_LineCounter_Write.calls (k : Nat) (g : Nat) (s0_0 : Int) (A1 : Option Addr) (c1 : Nat) (l1 : List Int) (r1 : Int) (r2 : Option Int) (r3 : Int) (w0 w : World) (hI : IsS44 w0 w g s0_0) (hB : Below w0.heap.size w0 w) (hr1 : Kd.C (Kd.int .u8) w A1 l1.length l1) (hc1 : l1.length ≤ c1) (hf1 : ∀ ad, A1 = some ad → 0 < l1.length → ad.block ≠ g) (h : tw_LineCounter_Write.f k s0_0 l1 = some (r1, r2, r3)) :
    Calls Try.prog 25 #[.pointer (some ⟨g, 0, none⟩), .slice A1 l1.length c1] w fun e w' => e = .returned (.tuple #[.int .i64 r1, errW r2]) ∧ IsS44 w0 w' g r3 ∧ Below w0.heap.size w0 w' ∧ KeepBut w w' g none := by
  have HR1 := Aside0.mk hr1
  have HC1 := Aside0.mk hc1
  clear hr1 hc1
  have HI0 := Aside0.mk hI
  have HK := Aside0.mk (KeepBut.refl w g none)
  have HL := Aside0.mk hB.size
  clear hI
  have HW0 := Aside0.mk hB.size
  have HB := Aside0.mk hB
  clear hB
  have H : (tw_LineCounter_Write.l0 k l1 l1 (l1.length : Int) 0 s0_0) = some (r1, r2, r3) := h
  clear h
  have H' := Aside0.mk H
  clear H
  go_enter Try.func25, Try.ntmps25
  go_wp2
  go_loopg [10] k (fun kq v10 w' => ∃ (x10_1 : Int) (x1000_1 : Int), v10 = .int .i64 x10_1 ∧ Aside0 (tw_LineCounter_Write.l0 kq l1 l1 (l1.length : Int) x10_1 x1000_1 = some (r1, r2, r3)) ∧ Aside0 (kq ≤ k) ∧ Aside0 (IsS44 w0 w' g x1000_1) ∧ Aside0 (KeepBut w w' g none) ∧ Aside0 (Below w0.heap.size w0 w'))
  case atStart => exact ⟨(0), (s0_0), (by first | rfl | (simp; done) | (simp [*]; done)), H', ⟨Nat.le_refl _⟩, ⟨by repeat (first | (with_reducible first | exact HI0.out | apply IsS44.alloc | apply IsS44.drewN | apply IsS44.drew | apply IsS44.set_0) | exact HI0.out)⟩, ⟨by repeat (first | (with_reducible first | exact HK.out | apply KeepBut.set_ | apply keep_drewN | apply keep_drew | apply keep_alloc) | exact HK.out)⟩, ⟨by repeat (first | (with_reducible first | exact HB.out | apply below_alloc | apply pw_below_drewN | apply below_drew1 | refine below_set ?_ (IsS44.ge HI0.out)) | exact HB.out)⟩⟩
  case round =>
    clear H'
    try clear c1
    try clear c2
    try clear p2
    obtain ⟨x10_1, x1000_1, rfl, HA, HK1, HI0, HK, HB⟩ := hrel
    cases gk with
    | zero => exact absurd HA.out (by simp [tw_LineCounter_Write.l0])
    | succ k1 =>
      have H := HA.out
      clear HA
      simp only [tw_LineCounter_Write.l0] at H
      by_cases c3 : x10_1 < (l1.length : Int)
      · rw [if_pos c3] at H
        have c3b0 : decide (x10_1 < (l1.length : Int)) = true := decide_eq_true c3
        clear c3
        by_cases c4 : 0 ≤ x10_1
        · rw [if_pos c4] at H
          have c4b0 : decide (0 ≤ x10_1) = true := decide_eq_true c4
          clear c4
          by_cases c5 : x10_1 < (l1.length : Int)
          · rw [if_pos c5] at H
            have c5b0 : decide (x10_1 < (l1.length : Int)) = true := decide_eq_true c5
            clear c5
            by_cases c6 : (rd l1 x10_1) = 10
            · rw [if_pos c6] at H
              have c6b0 : ((rd l1 x10_1) == 10) = true := beq_iff_eq.mpr c6
              have c6b1 : ((rd l1 x10_1) != 10) = false := bne_eq_false_iff_eq.mpr c6
              clear c6
              have H' := Aside0.mk H
              clear H
              have p101 : 0 ≤ (x10_1 : Int) := of_decide_eq_true (by first | (with_reducible assumption) | assumption)
              have q101 : x10_1 < (l1.length : Int) := of_decide_eq_true (by first | (with_reducible assumption) | assumption)
              obtain ⟨ad101, e101, hx101_0⟩ := Kd.at_int HR1.out x10_1 p101 q101
              cases e101
              replace hx101_0 := keep_cell HK.out hx101_0 (by first | (rw [add_block]; exact hf1 _ rfl (by omega)) | exact hf1 _ rfl (by omega) | exact hf1 ad101 rfl (by omega))
              replace p101 := eq_true p101
              replace q101 := eq_true q101
              obtain ⟨HGz7, hgz7⟩ := HI0.out
              have hcz7_0 := cellS44_0 HGz7
              have hfz7_0 := blk_frozen HGz7 0
              clear HGz7 hgz7
              go_wp2
              go_roundg k1
              case measure => have := HK1.out; omega
              case rel => exact ⟨(wrap64 (x10_1 + 1)), (wrap64 (x1000_1 + 1)), (by first | rfl | (simp; done) | (simp [*]; done)), H', ⟨by have := HK1.out; omega⟩, ⟨by repeat (first | (with_reducible first | exact HI0.out | apply IsS44.alloc | apply IsS44.drewN | apply IsS44.drew | apply IsS44.set_0) | exact HI0.out)⟩, ⟨by repeat (first | (with_reducible first | exact HK.out | apply KeepBut.set_ | apply keep_drewN | apply keep_drew | apply keep_alloc) | exact HK.out)⟩, ⟨by repeat (first | (with_reducible first | exact HB.out | apply below_alloc | apply pw_below_drewN | apply below_drew1 | refine below_set ?_ (IsS44.ge HI0.out)) | exact HB.out)⟩⟩
            · rw [if_neg c6] at H
              have c6b0 : ((rd l1 x10_1) == 10) = false := beq_eq_false_iff_ne.mpr c6
              have c6b1 : ((rd l1 x10_1) != 10) = true := bne_iff_ne.mpr c6
              have H' := Aside0.mk H
              clear H
              have p101 : 0 ≤ (x10_1 : Int) := of_decide_eq_true (by first | (with_reducible assumption) | assumption)
              have q101 : x10_1 < (l1.length : Int) := of_decide_eq_true (by first | (with_reducible assumption) | assumption)
              obtain ⟨ad101, e101, hx101_0⟩ := Kd.at_int HR1.out x10_1 p101 q101
              cases e101
              replace hx101_0 := keep_cell HK.out hx101_0 (by first | (rw [add_block]; exact hf1 _ rfl (by omega)) | exact hf1 _ rfl (by omega) | exact hf1 ad101 rfl (by omega))
              replace p101 := eq_true p101
              replace q101 := eq_true q101
              go_wp2
              go_roundg k1
              case measure => have := HK1.out; omega
              case rel => exact ⟨(wrap64 (x10_1 + 1)), (x1000_1), (by first | rfl | (simp; done) | (simp [*]; done)), H', ⟨by have := HK1.out; omega⟩, ⟨by repeat (first | (with_reducible first | exact HI0.out | apply IsS44.alloc | apply IsS44.drewN | apply IsS44.drew | apply IsS44.set_0) | exact HI0.out)⟩, ⟨by repeat (first | (with_reducible first | exact HK.out | apply KeepBut.set_ | apply keep_drewN | apply keep_drew | apply keep_alloc) | exact HK.out)⟩, ⟨by repeat (first | (with_reducible first | exact HB.out | apply below_alloc | apply pw_below_drewN | apply below_drew1 | refine below_set ?_ (IsS44.ge HI0.out)) | exact HB.out)⟩⟩
          · rw [if_neg c5] at H
            exact absurd H (by simp)
        · rw [if_neg c4] at H
          exact absurd H (by simp)
      · rw [if_neg c3] at H
        have c3b0 : decide (x10_1 < (l1.length : Int)) = false := decide_eq_false c3
        clear c3
        simp only [Option.some.injEq, Prod.mk.injEq] at H
        obtain ⟨rfl, rfl, rfl⟩ := H
        go_wp2
        go_ret2
        exact ⟨by first | rfl | (simp [errW_none, errW_some] <;> rfl) | (simp [*, errW_none, errW_some] <;> rfl), by repeat (first | (with_reducible first | exact HI0.out | apply IsS44.alloc | apply IsS44.drewN | apply IsS44.drew | apply IsS44.set_0) | exact HI0.out), by repeat (first | (with_reducible first | exact HB.out | apply below_alloc | apply pw_below_drewN | apply below_drew1 | refine below_set ?_ (IsS44.ge HI0.out)) | exact HB.out), by repeat (first | (with_reducible first | exact HK.out | apply KeepBut.set_ | apply keep_drewN | apply keep_drew | apply keep_alloc) | exact HK.out)⟩

end Go.Proofs.Ytimefacdnabkdaa.PWrite
