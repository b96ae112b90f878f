-- Written by hprint.py, a program of this session
import Derived.Test.YtnmochachiieaaaDoorPFnBeforeFallsx0
import Derived.Test.YtnmochachiieaaaDoorPFnBeforeFallsx2
namespace Go.Proofs.YtnmochachiieaaaDoor.PFnBeforeFalls
open Go.RowKit Go.Proofs.YtnmochachiieaaaDoorW.PrintWords Go.Proofs.YtnmochachiieaaaDoorW.PrintLast Go.Proofs.YtnmochachiieaaaDoorW.PrintMore
attribute [local go_sem] max2_int min2_int max_two min_two max_three min_three max_four min_four   -- for this text's walks alone
set_option linter.unusedVariables false
set_option linter.unusedSimpArgs false

/-! ### lightstrconv_underscores: function 26 -/
def lightstrconv_underscores.l0 : Nat → ByteArray → Int → Option (Bool)
  | 0, _, _ => none
  | k + 1, x0, x3 => if x3 < (x0.size : Int) then (if 0 ≤ x3 then (if (bt x0 x3) = 95 then ((lightstrconv_underscoreOK.f k x0).bind fun t158 => (some t158)) else (lightstrconv_underscores.l0 k x0 (wrap64 (x3 + 1)))) else (none)) else (some true)
def lightstrconv_underscores.f (k : Nat) (a0 : ByteArray) : Option (Bool) := lightstrconv_underscores.l0 k a0 0
theorem lightstrconv_underscores.mono_l : ∀ k, (∀ y0 y1, LeO (lightstrconv_underscores.l0 k y0 y1) (lightstrconv_underscores.l0 (k + 1) y0 y1))
  | 0 => fun _ _ r h => by simp [lightstrconv_underscores.l0] at h
  | k + 1 => by
    have ih0 := lightstrconv_underscores.mono_l k
    · intro y0 y1
      unfold lightstrconv_underscores.l0
      repeat' first
      | (with_reducible exact ih0 _ _)
      | (with_reducible exact lightstrconv_underscoreOK.mono _ _)
      | (with_reducible exact LeO.refl _)
      | (with_reducible exact LeO.none _)
      | (with_reducible refine LeO.ite ?_ ?_)
      | (with_reducible refine LeO.bind ?_ (fun _ => ?_))
      | exact ih0 _ _
      | exact lightstrconv_underscoreOK.mono _ _
      | exact LeO.none _
      | refine LeO.ite ?_ ?_
      | refine LeO.bind ?_ (fun _ => ?_)
theorem lightstrconv_underscores.mono : ∀ a0 k, LeO (lightstrconv_underscores.f k a0) (lightstrconv_underscores.f (k + 1) a0) := by
  intro a0 k
  have ih0 := lightstrconv_underscores.mono_l k
  unfold lightstrconv_underscores.f
  repeat' first
      | (with_reducible exact ih0 _ _)
      | (with_reducible exact lightstrconv_underscoreOK.mono _ _)
      | (with_reducible exact LeO.refl _)
      | (with_reducible exact LeO.none _)
      | (with_reducible refine LeO.ite ?_ ?_)
      | (with_reducible refine LeO.bind ?_ (fun _ => ?_))
      | exact ih0 _ _
      | exact lightstrconv_underscoreOK.mono _ _
      | exact LeO.none _
      | refine LeO.ite ?_ ?_
      | refine LeO.bind ?_ (fun _ => ?_)
set_option maxHeartbeats 8000000 in
set_option maxRecDepth 100000 in
theorem lightstrconv_underscores.calls (k : Nat) (a0 : ByteArray) (r : Bool) (w : World) (h : lightstrconv_underscores.f k a0 = some r) :
    Calls Tryd.prog 26 #[.string a0] w fun e w' => e = .returned (.bool r) ∧ Drawn0 w w' := by
  have H : (lightstrconv_underscores.l0 k a0 0) = some r := h
  clear h
  have H' := Aside0.mk H
  clear H
  go_enter Tryd.func26, Tryd.ntmps26
  go_wp2
  go_loopg [3] k (fun kq v3 w' => ∃ (x3_1 : Int), v3 = .int .i64 x3_1 ∧ Aside0 (lightstrconv_underscores.l0 kq a0 x3_1 = some r) ∧ Aside0 (kq ≤ k) ∧ Drawn0 w w')
  case atStart => exact ⟨(0), (by first | rfl | (simp; done) | (simp [*]; done)), H', ⟨Nat.le_refl _⟩, by repeat (first | exact Drawn0.refl _ | apply Drawn0.step)⟩
  case round =>
    clear H'
    obtain ⟨x3_1, rfl, HA, HK1, ⟨m1, rfl⟩⟩ := hrel
    cases gk with
    | zero => exact absurd HA.out (by simp [lightstrconv_underscores.l0])
    | succ k1 =>
      have H := HA.out
      clear HA
      simp only [lightstrconv_underscores.l0] at H
      by_cases c2 : x3_1 < (a0.size : Int)
      · rw [if_pos c2] at H
        have c2b0 : decide (x3_1 < (a0.size : Int)) = true := decide_eq_true c2
        clear c2
        by_cases c3 : 0 ≤ x3_1
        · rw [if_pos c3] at H
          have c3b0 : decide (0 ≤ x3_1) = true := decide_eq_true c3
          clear c3
          by_cases c5 : (bt a0 x3_1) = 95
          · rw [if_pos c5] at H
            have c5b0 : ((bt a0 x3_1) == 95) = true := beq_iff_eq.mpr c5
            have c5b1 : ((bt a0 x3_1) != 95) = false := bne_eq_false_iff_eq.mpr c5
            clear c5
            replace H := Option.bind_eq_some_iff.mp H
            obtain ⟨t158, A60, H⟩ := H
            replace H : (some t158) = some r := H
            have A6 := Aside0.mk A60
            clear A60
            obtain rfl := Option.some.inj H
            have p4 : 0 ≤ (x3_1 : Int) := of_decide_eq_true (by first | (with_reducible assumption) | assumption)
            have q4 : x3_1 < (a0.size : Int) := of_decide_eq_true (by first | (with_reducible assumption) | assumption)
            have hx4 := bt_at a0 x3_1
            replace p4 := eq_true p4
            replace q4 := eq_true q4
            go_wp2_with (first | ((with_reducible refine gate_callee (f := 41) rfl ?_); refine goesL_ (some 15) rfl rfl Tryd.func41 (by kernel_rfl) rfl #[.string a0] rfl (by (try simp only [List.map_toArray, List.map_cons, List.map_nil]); first | done | rfl | (simp only [List.length_drop, List.length_take]; rfl)) ?_; (with_reducible refine (lightstrconv_underscoreOK.calls k1 a0 t158 _ A6.out).mono ?_); rintro e w' ⟨rfl, ⟨nd, rfl⟩⟩; refine ⟨_, rfl, ?_⟩))
            go_ret
            exact ⟨by first | rfl | (simp; done) | (simp [*]; done), by repeat (first | exact Drawn0.refl _ | apply Drawn0.step)⟩
          · rw [if_neg c5] at H
            have c5b0 : ((bt a0 x3_1) == 95) = false := beq_eq_false_iff_ne.mpr c5
            have c5b1 : ((bt a0 x3_1) != 95) = true := bne_iff_ne.mpr c5
            have H' := Aside0.mk H
            clear H
            have p4 : 0 ≤ (x3_1 : Int) := of_decide_eq_true (by first | (with_reducible assumption) | assumption)
            have q4 : x3_1 < (a0.size : Int) := of_decide_eq_true (by first | (with_reducible assumption) | assumption)
            have hx4 := bt_at a0 x3_1
            replace p4 := eq_true p4
            replace q4 := eq_true q4
            go_wp2
            go_roundg k1
            case measure => have := HK1.out; omega
            case rel => exact ⟨(wrap64 (x3_1 + 1)), (by first | rfl | (simp; done) | (simp [*]; done)), H', ⟨by have := HK1.out; omega⟩, by repeat (first | exact Drawn0.refl _ | apply Drawn0.step)⟩
        · rw [if_neg c3] at H
          exact absurd H (by simp)
      · rw [if_neg c2] at H
        have c2b0 : decide (x3_1 < (a0.size : Int)) = false := decide_eq_false c2
        clear c2
        obtain rfl := Option.some.inj H
        go_wp2
        go_ret
        exact ⟨by first | rfl | (simp; done) | (simp [*]; done), by repeat (first | exact Drawn0.refl _ | apply Drawn0.step)⟩

-- NOT PRINTED: function 27 (lightstrconv_fail)

/-- A state of type 75 at block g of W; what its slices lead to came in by w0. -/
def IsS75 (w0 W : World) (g : Nat) (f0 : List Int) (f1 : Int) : Prop := ∃ A0 c0, W.heap[g]? = some (.cells #[.slice A0 f0.length c0, .int .i64 f1] 75 (0, 0)) ∧ w0.heap.size ≤ g ∧ Kd.C (Kd.int .u8) w0 A0 f0.length f0
theorem IsS75.grown {w0 W : World} {g : Nat} {f0 : List Int} {f1 : Int} {W1 : World} {row : Option Nat} (h : IsS75 w0 W g f0 f1) (hw : W.grownBy W1 row) (hne : some g ≠ row) : IsS75 w0 W1 g f0 f1 := by
  obtain ⟨A0, c0, hb, hg, hr0⟩ := h
  exact ⟨A0, c0, blk_grown hb hw hne, hg, hr0⟩
theorem IsS75.own_neN {w0 W : World} {g : Nat} {f0 : List Int} {f1 : Int} {α : Type} {d : Kd α} {e : Nat} {base : Nat} {ok : Nat → Prop} {v : Value} {xs : List α} (h : IsS75 w0 W g f0 f1) (ho : Kd.N d e W base ok v xs) (ht : e ≠ 75) : some g ≠ v.ownBlock := by
  obtain ⟨A0, c0, hb, hg, hr0⟩ := h
  exact Kd.N_ne ho hb ht
theorem IsS75.fresh {w0 W : World} {g : Nat} {f0 : List Int} {f1 : Int} (h : IsS75 w0 W g f0 f1) : ∀ k, W.heap.size ≤ k → k ≠ g := by
  obtain ⟨A0, c0, hb, hg, hr0⟩ := h
  exact Kd.freshB hb
theorem IsS75.kept {w0 W : World} {g : Nat} {f0 : List Int} {f1 : Int} {W1 : World} {S : Nat → Prop} (h : IsS75 w0 W g f0 f1) (hk : Kept W W1 S) (hne : ¬ S g) : IsS75 w0 W1 g f0 f1 := by
  obtain ⟨A0, c0, hb, hg, hr0⟩ := h
  exact ⟨A0, c0, blk_kept hb hk hne, hg, hr0⟩
theorem IsS75.below {w0 W : World} {g : Nat} {f0 : List Int} {f1 : Int} {W1 : World} (h : IsS75 w0 W g f0 f1) (hw : Below W.heap.size W W1) : IsS75 w0 W1 g f0 f1 := h.grown (grown_of_below hw none) (by simp)
theorem IsS75.alloc {w0 W : World} {g : Nat} {f0 : List Int} {f1 : Int} (h : IsS75 w0 W g f0 f1) (o : Obj) : IsS75 w0 (W.alloc o) g f0 f1 := h.below (below_alloc (Below.refl _ _) o)
theorem IsS75.drewN {w0 W : World} {g : Nat} {f0 : List Int} {f1 : Int} (h : IsS75 w0 W g f0 f1) (m : Nat) : IsS75 w0 (W.drewN m) g f0 f1 := h
theorem IsS75.drew {w0 W : World} {g : Nat} {f0 : List Int} {f1 : Int} (h : IsS75 w0 W g f0 f1) : IsS75 w0 W.drew g f0 f1 := h
theorem IsS75.at_ {w0 W : World} {g : Nat} {f0 : List Int} {f1 : Int} {w' : World} {m : Nat} (hq : W.drewN m = w') (h : IsS75 w0 W g f0 f1) : IsS75 w0 w' g f0 f1 := by subst hq; exact IsS75.drewN h m
theorem IsS75.apart {w0 W : World} {g : Nat} {f0 : List Int} {f1 : Int} {α : Type} {d : Kd α} {e : Nat} {base : Nat} {ok : Nat → Prop} {v : Value} {xs : List α} (h : IsS75 w0 W g f0 f1) (ho : d.R e W base ok v xs) (ht : ∀ q, q ∈ e :: d.E → q ≠ 75) : d.R e W base (fun k => ok k ∧ k ≠ g) v xs := by
  obtain ⟨A0, c0, hb, hg, hr0⟩ := h
  exact Kd.R_types ho hb ht
theorem IsS75.own_ne {w0 W : World} {g : Nat} {f0 : List Int} {f1 : Int} {α : Type} {d : Kd α} {e : Nat} {base : Nat} {ok : Nat → Prop} {v : Value} {xs : List α} (h : IsS75 w0 W g f0 f1) (ho : d.R e W base ok v xs) (ht : e ≠ 75) : some g ≠ v.ownBlock := by
  obtain ⟨A0, c0, hb, hg, hr0⟩ := h
  exact Kd.R_ne ho hb ht
theorem IsS75.apartQ {w0 W : World} {g : Nat} {f0 : List Int} {f1 : Int} {α : Type} {d : Kd α} {e : Nat} {base : Nat} {ok : Nat → Prop} {v : Value} {xs : List α} (h : IsS75 w0 W g f0 f1) (ho : d.Q e W base ok v xs) (ht : ∀ q, q ∈ e :: d.E → q ≠ 75) : d.Q e W base (fun k => ok k ∧ k ≠ g) v xs := by
  obtain ⟨A0, c0, hb, hg, hr0⟩ := h
  exact Kd.Q_types ho hb ht
theorem IsS75.own_neQ {w0 W : World} {g : Nat} {f0 : List Int} {f1 : Int} {α : Type} {d : Kd α} {e : Nat} {base : Nat} {ok : Nat → Prop} {v : Value} {xs : List α} (h : IsS75 w0 W g f0 f1) (ho : d.Q e W base ok v xs) (ht : e ≠ 75) : some g ≠ v.ownBlock := by
  obtain ⟨A0, c0, hb, hg, hr0⟩ := h
  exact Kd.Q_ne ho hb ht
theorem IsS75.apartS {w0 W : World} {g : Nat} {f0 : List Int} {f1 : Int} {α : Type} {d : Kd α} {e : Nat} {base : Nat} {ok : Nat → Prop} {v : Value} {xs : List α} (h : IsS75 w0 W g f0 f1) (ho : d.S e W base ok v xs) (ht : ∀ q, q ∈ e :: d.E → q ≠ 75) : d.S e W base (fun k => ok k ∧ k ≠ g) v xs := by
  obtain ⟨A0, c0, hb, hg, hr0⟩ := h
  exact Kd.S_types ho hb ht
theorem IsS75.own_neS {w0 W : World} {g : Nat} {f0 : List Int} {f1 : Int} {α : Type} {d : Kd α} {e : Nat} {base : Nat} {ok : Nat → Prop} {v : Value} {xs : List α} (h : IsS75 w0 W g f0 f1) (ho : d.S e W base ok v xs) (ht : e ≠ 75) : some g ≠ v.ownBlock := by
  obtain ⟨A0, c0, hb, hg, hr0⟩ := h
  exact Kd.S_ne ho hb ht
theorem IsS75.lt {w0 W : World} {g : Nat} {f0 : List Int} {f1 : Int} (h : IsS75 w0 W g f0 f1) : g < W.heap.size := by
  obtain ⟨A0, c0, hb, hg, hr0⟩ := h
  exact blk_lt hb
theorem IsS75.ge {w0 W : World} {g : Nat} {f0 : List Int} {f1 : Int} (h : IsS75 w0 W g f0 f1) : w0.heap.size ≤ g := by
  obtain ⟨A0, c0, hb, hg, hr0⟩ := h
  exact hg
theorem IsS75.ne_blk {w0 W : World} {g : Nat} {f0 : List Int} {f1 : Int} {a : Nat} {cs : Array Value} {t : TypeId} {fr : Nat × Nat} (h : IsS75 w0 W g f0 f1) (hb2 : W.heap[a]? = some (.cells cs t fr)) (ht : t ≠ 75) : g ≠ a := by
  obtain ⟨A0, c0, hb, hg, hr0⟩ := h
  rintro rfl
  rw [hb] at hb2
  injection hb2 with hb2
  injection hb2 with _ ht2
  exact ht ht2.symm
theorem IsS75.far {w0 W : World} {g : Nat} {f0 : List Int} {f1 : Int} {p : Addr} (h : IsS75 w0 W g f0 f1) (hne : g ≠ p.block) (u : Value) : IsS75 w0 (W.setCell p u) g f0 f1 := by
  obtain ⟨A0, c0, hb, hg, hr0⟩ := h
  exact ⟨A0, c0, blk_far hb hne u, hg, hr0⟩
theorem cellS75_0 {W : World} {g : Nat} {A0 : Option Addr} {c0 : Nat} {f0 : List Int} {f1 : Int} (h : W.heap[g]? = some (.cells #[.slice A0 f0.length c0, .int .i64 f1] 75 (0, 0))) : W.cell? ⟨g, 0, none⟩ = some (.slice A0 f0.length c0) := (blk_cell h 0).trans rfl
theorem cellS75_1 {W : World} {g : Nat} {A0 : Option Addr} {c0 : Nat} {f0 : List Int} {f1 : Int} (h : W.heap[g]? = some (.cells #[.slice A0 f0.length c0, .int .i64 f1] 75 (0, 0))) : W.cell? ⟨g, 1, none⟩ = some (.int .i64 f1) := (blk_cell h 1).trans rfl
theorem IsS75.set_1 {w0 W : World} {g : Nat} {f0 : List Int} {f1 : Int} (h : IsS75 w0 W g f0 f1) (x : Int) : IsS75 w0 (W.setCell ⟨g, 1, none⟩ (.int .i64 x)) g f0 x := by
  obtain ⟨A0, c0, hb, hg, hr0⟩ := h
  exact ⟨A0, c0, by simpa using blk_set hb 1 (.int .i64 x), hg, hr0⟩
theorem IsS75.new (w0 W : World) (A0 : Option Addr) (c0 : Nat) (f0 : List Int) (f1 : Int) (hB : Below w0.heap.size w0 W) (hr0 : Kd.C (Kd.int .u8) w0 A0 f0.length f0) : IsS75 w0 (W.alloc (.cells #[.slice A0 f0.length c0, .int .i64 f1] 75)) W.heap.size f0 f1 := ⟨A0, c0, by simpa using heap_alloc_new W _, hB.size, hr0⟩

/-! ### lightstrconv_decimal_digit: function 51 -/
def lightstrconv_decimal_digit.f (s0_0 : List Int) (s0_1 : Int) (a1 : Int) : Option (Int × Int) := if a1 ≥ 0 then (if a1 < (s0_0.length : Int) then (if 0 ≤ a1 then (some (rd s0_0 a1, s0_1)) else (none)) else (some (0, s0_1))) else (some (0, s0_1))
set_option maxHeartbeats 8000000 in
set_option maxRecDepth 100000 in
theorem lightstrconv_decimal_digit.calls (g : Nat) (s0_0 : List Int) (s0_1 : Int) (a1 : Int) (r1 : Int) (r2 : Int) (w0 w : World) (hI : IsS75 w0 w g s0_0 s0_1) (hB : Below w0.heap.size w0 w) (h : lightstrconv_decimal_digit.f s0_0 s0_1 a1 = some (r1, r2)) :
    Calls Tryd.prog 51 #[.pointer (some ⟨g, 0, none⟩), .int .i64 a1] w fun e w' => e = .returned (.int .u8 r1) ∧ IsS75 w0 w' g s0_0 r2 ∧ Below w0.heap.size w0 w' ∧ KeepBut w w' g none := by
  have HI0 := Aside0.mk hI
  have HK := Aside0.mk (KeepBut.refl w g none)
  have HL := Aside0.mk hB.size
  clear hI
  have HW0 := Aside0.mk hB.size
  have HB := Aside0.mk hB
  clear hB
  have H : (if a1 ≥ 0 then (if a1 < (s0_0.length : Int) then (if 0 ≤ a1 then (some (rd s0_0 a1, s0_1)) else (none)) else (some (0, s0_1))) else (some (0, s0_1))) = some (r1, r2) := h
  clear h
  by_cases c3 : a1 ≥ 0
  · rw [if_pos c3] at H
    have c3b0 : decide (0 ≤ a1) = true := decide_eq_true c3
    clear c3
    by_cases c4 : a1 < (s0_0.length : Int)
    · rw [if_pos c4] at H
      have c4b0 : decide (a1 < (s0_0.length : Int)) = true := decide_eq_true c4
      clear c4
      by_cases c5 : 0 ≤ a1
      · rw [if_pos c5] at H
        have c5b0 : decide (0 ≤ a1) = true := decide_eq_true c5
        clear c5
        simp only [Option.some.injEq, Prod.mk.injEq] at H
        obtain ⟨rfl, rfl⟩ := H
        obtain ⟨ASz6_0, cSz6_0, HGz6, hgz6, HSz6_0⟩ := HI0.out
        have hcz6_0 := cellS75_0 HGz6
        have hcz6_1 := cellS75_1 HGz6
        have hfz6_1 := blk_frozen HGz6 1
        clear HGz6 hgz6
        have p159 : 0 ≤ (a1 : Int) := of_decide_eq_true (by first | (with_reducible assumption) | assumption)
        have q159 : a1 < (s0_0.length : Int) := of_decide_eq_true (by first | (with_reducible assumption) | assumption)
        obtain ⟨ad159, e159, hx159_0⟩ := Kd.at_int HSz6_0 a1 p159 q159
        cases e159
        replace hx159_0 := pw_cell_below HB.out hx159_0
        (try simp only [Go.IntWalk.toNatUp] at hx159_0)
        replace p159 := eq_true p159
        replace q159 := eq_true q159
        go_enter Tryd.func51, Tryd.ntmps51
        go_wp2
        go_ret
        exact ⟨by first | rfl | (simp [errW_none, errW_some] <;> rfl) | (simp [errW_none, errW_some, It.bne_nil] <;> rfl) | (simp [errW_none, errW_some, It.bne_nil]; done) | (simp [*, errW_none, errW_some] <;> rfl), by repeat (first | (with_reducible first | exact HI0.out | apply IsS75.alloc | apply IsS75.drewN | apply IsS75.drew | apply IsS75.set_1) | exact HI0.out), by repeat (first | (with_reducible first | exact HB.out | apply below_alloc | apply pw_below_drewN | apply below_drew1 | refine below_set ?_ (IsS75.ge HI0.out)) | exact HB.out), by repeat (first | (with_reducible first | exact HK.out | apply KeepBut.set_ | apply keep_drewN | apply keep_drew | apply keep_alloc) | exact HK.out)⟩
      · rw [if_neg c5] at H
        exact absurd H (by simp)
    · rw [if_neg c4] at H
      have c4b0 : decide (a1 < (s0_0.length : Int)) = false := decide_eq_false c4
      clear c4
      simp only [Option.some.injEq, Prod.mk.injEq] at H
      obtain ⟨rfl, rfl⟩ := H
      obtain ⟨ASz7_0, cSz7_0, HGz7, hgz7, HSz7_0⟩ := HI0.out
      have hcz7_0 := cellS75_0 HGz7
      have hcz7_1 := cellS75_1 HGz7
      have hfz7_1 := blk_frozen HGz7 1
      clear HGz7 hgz7
      go_enter Tryd.func51, Tryd.ntmps51
      go_wp2
      go_ret
      exact ⟨by first | rfl | (simp [errW_none, errW_some] <;> rfl) | (simp [errW_none, errW_some, It.bne_nil] <;> rfl) | (simp [errW_none, errW_some, It.bne_nil]; done) | (simp [*, errW_none, errW_some] <;> rfl), by repeat (first | (with_reducible first | exact HI0.out | apply IsS75.alloc | apply IsS75.drewN | apply IsS75.drew | apply IsS75.set_1) | exact HI0.out), by repeat (first | (with_reducible first | exact HB.out | apply below_alloc | apply pw_below_drewN | apply below_drew1 | refine below_set ?_ (IsS75.ge HI0.out)) | exact HB.out), by repeat (first | (with_reducible first | exact HK.out | apply KeepBut.set_ | apply keep_drewN | apply keep_drew | apply keep_alloc) | exact HK.out)⟩
  · rw [if_neg c3] at H
    have c3b0 : decide (0 ≤ a1) = false := decide_eq_false c3
    clear c3
    simp only [Option.some.injEq, Prod.mk.injEq] at H
    obtain ⟨rfl, rfl⟩ := H
    go_enter Tryd.func51, Tryd.ntmps51
    go_wp2
    go_ret
    exact ⟨by first | rfl | (simp [errW_none, errW_some] <;> rfl) | (simp [errW_none, errW_some, It.bne_nil] <;> rfl) | (simp [errW_none, errW_some, It.bne_nil]; done) | (simp [*, errW_none, errW_some] <;> rfl), by repeat (first | (with_reducible first | exact HI0.out | apply IsS75.alloc | apply IsS75.drewN | apply IsS75.drew | apply IsS75.set_1) | exact HI0.out), by repeat (first | (with_reducible first | exact HB.out | apply below_alloc | apply pw_below_drewN | apply below_drew1 | refine below_set ?_ (IsS75.ge HI0.out)) | exact HB.out), by repeat (first | (with_reducible first | exact HK.out | apply KeepBut.set_ | apply keep_drewN | apply keep_drew | apply keep_alloc) | exact HK.out)⟩

/-! ### lightstrconv_decimal_nearUp: function 52 -/
def lightstrconv_decimal_nearUp.j0 : Nat → Int → Bool → List Int → Int → Option (Bool × Int)
  | 0, _, _, _, _ => none
  | k + 1, x1, x15, x1000, x1001 => if x15 = true then (some (false, x1001)) else (if 0 ≤ x1 then (if x1 < (x1000.length : Int) then (if (rd x1000 x1) = 5 then (if (wrap64 (x1 + 1)) = (x1000.length : Int) then (if x1 > 0 then (if 0 ≤ (wrap64 (x1 - 1)) then (if (wrap64 (x1 - 1)) < (x1000.length : Int) then (some (((Int.tmod (rd x1000 (wrap64 (x1 - 1))) 2) != 0), x1001)) else (none)) else (none)) else (some (false, x1001))) else (some (decide ((rd x1000 x1) ≥ 5), x1001))) else (some (decide ((rd x1000 x1) ≥ 5), x1001))) else (none)) else (none))
def lightstrconv_decimal_nearUp.f (k : Nat) (s0_0 : List Int) (s0_1 : Int) (a1 : Int) : Option (Bool × Int) := if a1 < 0 then (lightstrconv_decimal_nearUp.j0 k a1 true s0_0 s0_1) else (lightstrconv_decimal_nearUp.j0 k a1 (decide (a1 ≥ (s0_0.length : Int))) s0_0 s0_1)
theorem lightstrconv_decimal_nearUp.mono_l : ∀ k, (∀ y0 y1 y2 y3, LeO (lightstrconv_decimal_nearUp.j0 k y0 y1 y2 y3) (lightstrconv_decimal_nearUp.j0 (k + 1) y0 y1 y2 y3))
  | 0 => fun _ _ _ _ r h => by simp [lightstrconv_decimal_nearUp.j0] at h
  | k + 1 => by
    have ih0 := lightstrconv_decimal_nearUp.mono_l k
    · intro y0 y1 y2 y3
      unfold lightstrconv_decimal_nearUp.j0
      repeat' first
      | (with_reducible exact ih0 _ _ _ _)
      | (with_reducible exact LeO.refl _)
      | (with_reducible exact LeO.none _)
      | (with_reducible refine LeO.ite ?_ ?_)
      | (with_reducible refine LeO.bind ?_ (fun _ => ?_))
      | exact ih0 _ _ _ _
      | exact LeO.none _
      | refine LeO.ite ?_ ?_
      | refine LeO.bind ?_ (fun _ => ?_)
theorem lightstrconv_decimal_nearUp.mono : ∀ a0 a1 a2 k, LeO (lightstrconv_decimal_nearUp.f k a0 a1 a2) (lightstrconv_decimal_nearUp.f (k + 1) a0 a1 a2) := by
  intro a0 a1 a2 k
  have ih0 := lightstrconv_decimal_nearUp.mono_l k
  unfold lightstrconv_decimal_nearUp.f
  repeat' first
      | (with_reducible exact ih0 _ _ _ _)
      | (with_reducible exact LeO.refl _)
      | (with_reducible exact LeO.none _)
      | (with_reducible refine LeO.ite ?_ ?_)
      | (with_reducible refine LeO.bind ?_ (fun _ => ?_))
      | exact ih0 _ _ _ _
      | exact LeO.none _
      | refine LeO.ite ?_ ?_
      | refine LeO.bind ?_ (fun _ => ?_)
set_option maxHeartbeats 8000000 in
set_option maxRecDepth 100000 in
theorem lightstrconv_decimal_nearUp.calls (k : Nat) (g : Nat) (s0_0 : List Int) (s0_1 : Int) (a1 : Int) (r1 : Bool) (r2 : Int) (w0 w : World) (hI : IsS75 w0 w g s0_0 s0_1) (hB : Below w0.heap.size w0 w) (h : lightstrconv_decimal_nearUp.f k s0_0 s0_1 a1 = some (r1, r2)) :
    Calls Tryd.prog 52 #[.pointer (some ⟨g, 0, none⟩), .int .i64 a1] w fun e w' => e = .returned (.bool r1) ∧ IsS75 w0 w' g s0_0 r2 ∧ Below w0.heap.size w0 w' ∧ KeepBut w w' g none := by
  have HI0 := Aside0.mk hI
  have HK := Aside0.mk (KeepBut.refl w g none)
  have HL := Aside0.mk hB.size
  clear hI
  have HW0 := Aside0.mk hB.size
  have HB := Aside0.mk hB
  clear hB
  have H : (if a1 < 0 then (lightstrconv_decimal_nearUp.j0 k a1 true s0_0 s0_1) else (lightstrconv_decimal_nearUp.j0 k a1 (decide (a1 ≥ (s0_0.length : Int))) s0_0 s0_1)) = some (r1, r2) := h
  clear h
  have HC3 := Aside0.mk H
  clear H
  go_enter Tryd.func52, Tryd.ntmps52
  go_upto_region 1 with (fail)
  go_cut [15] (fun v15 wc => ∃ (kq : Nat) (x15_2 : Bool), v15 = .bool x15_2 ∧ Aside0 (lightstrconv_decimal_nearUp.j0 kq a1 x15_2 s0_0 s0_1 = some (r1, r2)) ∧ Aside0 (kq ≤ k) ∧ Aside0 (IsS75 w0 wc g s0_0 s0_1) ∧ Aside0 (KeepBut w wc g none) ∧ Aside0 (Below w0.heap.size w0 wc))
  case first =>
    have H := HC3.out
    clear HC3
    by_cases c4 : a1 < 0
    · rw [if_pos c4] at H
      have c4b0 : decide (a1 < 0) = true := decide_eq_true c4
      clear c4
      (first | rw [c4b0] | (simp only [i64_w, i32_w]; rw [c4b0]) | skip)
      have H' := Aside0.mk H
      clear H
      go_wp2
      go_meet
      case rel => exact ⟨_, (true), (by first | rfl | (simp; done) | (simp [*]; done)), H', ⟨by first | omega | exact Nat.le_refl _⟩, ⟨by repeat (first | (with_reducible first | exact HI0.out | apply IsS75.alloc | apply IsS75.drewN | apply IsS75.drew | apply IsS75.set_1) | exact HI0.out)⟩, ⟨by repeat (first | (with_reducible first | exact HK.out | apply KeepBut.set_ | apply keep_drewN | apply keep_drew | apply keep_alloc) | exact HK.out)⟩, ⟨by repeat (first | (with_reducible first | exact HB.out | apply below_alloc | apply pw_below_drewN | apply below_drew1 | refine below_set ?_ (IsS75.ge HI0.out)) | exact HB.out)⟩⟩
    · rw [if_neg c4] at H
      have c4b0 : decide (a1 < 0) = false := decide_eq_false c4
      clear c4
      (first | rw [c4b0] | (simp only [i64_w, i32_w]; rw [c4b0]) | skip)
      have H' := Aside0.mk H
      clear H
      obtain ⟨ASz5_0, cSz5_0, HGz5, hgz5, HSz5_0⟩ := HI0.out
      have hcz5_0 := cellS75_0 HGz5
      have hcz5_1 := cellS75_1 HGz5
      have hfz5_1 := blk_frozen HGz5 1
      clear HGz5 hgz5
      go_wp2
      go_meet
      case rel => exact ⟨_, (decide (a1 ≥ (s0_0.length : Int))), (by first | rfl | (simp; done) | (simp [*]; done)), H', ⟨by first | omega | exact Nat.le_refl _⟩, ⟨by repeat (first | (with_reducible first | exact HI0.out | apply IsS75.alloc | apply IsS75.drewN | apply IsS75.drew | apply IsS75.set_1) | exact HI0.out)⟩, ⟨by repeat (first | (with_reducible first | exact HK.out | apply KeepBut.set_ | apply keep_drewN | apply keep_drew | apply keep_alloc) | exact HK.out)⟩, ⟨by repeat (first | (with_reducible first | exact HB.out | apply below_alloc | apply pw_below_drewN | apply below_drew1 | refine below_set ?_ (IsS75.ge HI0.out)) | exact HB.out)⟩⟩
  case rest =>
    clear HC3
    try clear p2
    try clear c4
    try clear c4b0
    try clear c5
    try clear hcz5_0
    try clear hcz5_1
    try clear hfz5_1
    obtain ⟨kq, x15_2, rfl, HA, HJ2, HI0, HK, HB⟩ := hcut
    cases kq with
    | zero => exact absurd HA.out (by simp [lightstrconv_decimal_nearUp.j0])
    | succ kj2 =>
      have H := HA.out
      clear HA
      simp only [lightstrconv_decimal_nearUp.j0] at H
      by_cases c6 : x15_2 = true
      · subst c6
        have H1 : (some (false, s0_1)) = some (r1, r2) := by rw [if_pos rfl] at H; exact H
        clear H
        have H := H1
        clear H1
        simp only [Option.some.injEq, Prod.mk.injEq] at H
        obtain ⟨rfl, rfl⟩ := H
        go_wp2
        go_ret
        exact ⟨by first | rfl | (simp [errW_none, errW_some] <;> rfl) | (simp [errW_none, errW_some, It.bne_nil] <;> rfl) | (simp [errW_none, errW_some, It.bne_nil]; done) | (simp [*, errW_none, errW_some] <;> rfl), by repeat (first | (with_reducible first | exact HI0.out | apply IsS75.alloc | apply IsS75.drewN | apply IsS75.drew | apply IsS75.set_1) | exact HI0.out), by repeat (first | (with_reducible first | exact HB.out | apply below_alloc | apply pw_below_drewN | apply below_drew1 | refine below_set ?_ (IsS75.ge HI0.out)) | exact HB.out), by repeat (first | (with_reducible first | exact HK.out | apply KeepBut.set_ | apply keep_drewN | apply keep_drew | apply keep_alloc) | exact HK.out)⟩
      · replace c6 := Bool.eq_false_iff.mpr c6
        subst c6
        have H1 : (if 0 ≤ a1 then (if a1 < (s0_0.length : Int) then (if (rd s0_0 a1) = 5 then (if (wrap64 (a1 + 1)) = (s0_0.length : Int) then (if a1 > 0 then (if 0 ≤ (wrap64 (a1 - 1)) then (if (wrap64 (a1 - 1)) < (s0_0.length : Int) then (some (((Int.tmod (rd s0_0 (wrap64 (a1 - 1))) 2) != 0), s0_1)) else (none)) else (none)) else (some (false, s0_1))) else (some (decide ((rd s0_0 a1) ≥ 5), s0_1))) else (some (decide ((rd s0_0 a1) ≥ 5), s0_1))) else (none)) else (none)) = some (r1, r2) := by rw [if_neg (show ¬ (false = true) by decide)] at H; exact H
        clear H
        have H := H1
        clear H1
        by_cases c7 : 0 ≤ a1
        · rw [if_pos c7] at H
          have c7b0 : decide (0 ≤ a1) = true := decide_eq_true c7
          clear c7
          by_cases c8 : a1 < (s0_0.length : Int)
          · rw [if_pos c8] at H
            have c8b0 : decide (a1 < (s0_0.length : Int)) = true := decide_eq_true c8
            clear c8
            by_cases c9 : (rd s0_0 a1) = 5
            · rw [if_pos c9] at H
              have c9b0 : ((rd s0_0 a1) == 5) = true := beq_iff_eq.mpr c9
              have c9b1 : ((rd s0_0 a1) != 5) = false := bne_eq_false_iff_eq.mpr c9
              clear c9
              by_cases c10 : (wrap64 (a1 + 1)) = (s0_0.length : Int)
              · rw [if_pos c10] at H
                have c10b0 : ((wrap64 (a1 + 1)) == (s0_0.length : Int)) = true := beq_iff_eq.mpr c10
                have c10b1 : ((wrap64 (a1 + 1)) != (s0_0.length : Int)) = false := bne_eq_false_iff_eq.mpr c10
                clear c10
                by_cases c11 : a1 > 0
                · rw [if_pos c11] at H
                  have c11b0 : decide (0 < a1) = true := decide_eq_true c11
                  clear c11
                  obtain ⟨ji12, hji12⟩ : ∃ j_ : Int, (wrap64 (a1 - 1)) = j_ := ⟨_, rfl⟩
                  replace H : (if 0 ≤ (ji12) then (if (ji12) < (s0_0.length : Int) then (some (((Int.tmod (rd s0_0 (ji12)) 2) != 0), s0_1)) else (none)) else (none)) = some (r1, r2) := by first | (rw [hji12] at H; exact H) | (simp only [hji12] at H ⊢; exact H)
                  have hji12w : (IntKind.i64.wrap (a1 - 1)) = ji12 := (i64_w _).trans hji12
                  by_cases c13 : 0 ≤ (ji12)
                  · rw [if_pos c13] at H
                    have c13b0 : decide (0 ≤ (ji12)) = true := decide_eq_true c13
                    clear c13
                    by_cases c14 : (ji12) < (s0_0.length : Int)
                    · rw [if_pos c14] at H
                      have c14b0 : decide ((ji12) < (s0_0.length : Int)) = true := decide_eq_true c14
                      clear c14
                      simp only [Option.some.injEq, Prod.mk.injEq] at H
                      obtain ⟨rfl, rfl⟩ := H
                      obtain ⟨ASz15_0, cSz15_0, HGz15, hgz15, HSz15_0⟩ := HI0.out
                      have hcz15_0 := cellS75_0 HGz15
                      have hcz15_1 := cellS75_1 HGz15
                      have hfz15_1 := blk_frozen HGz15 1
                      clear HGz15 hgz15
                      have p160 : 0 ≤ (a1 : Int) := of_decide_eq_true (by first | (with_reducible assumption) | assumption)
                      have q160 : a1 < (s0_0.length : Int) := of_decide_eq_true (by first | (with_reducible assumption) | assumption)
                      obtain ⟨ad160, e160, hx160_0⟩ := Kd.at_int HSz15_0 a1 p160 q160
                      cases e160
                      replace hx160_0 := pw_cell_below HB.out hx160_0
                      (try simp only [Go.IntWalk.toNatUp] at hx160_0)
                      replace p160 := eq_true p160
                      replace q160 := eq_true q160
                      have p161 : 0 ≤ ((ji12) : Int) := of_decide_eq_true (by first | (with_reducible assumption) | assumption)
                      have q161 : (ji12) < (s0_0.length : Int) := of_decide_eq_true (by first | (with_reducible assumption) | assumption)
                      obtain ⟨ad161, e161, hx161_0⟩ := Kd.at_int HSz15_0 (ji12) p161 q161
                      obtain rfl : ad160 = ad161 := (by injection e161)
                      replace hx161_0 := pw_cell_below HB.out hx161_0
                      (try simp only [Go.IntWalk.toNatUp] at hx161_0)
                      replace p161 := eq_true p161
                      replace q161 := eq_true q161
                      go_wp2
                      go_ret
                      exact ⟨by first | rfl | (simp [errW_none, errW_some] <;> rfl) | (simp only [← hji12]; first | rfl | (simp [errW_none, errW_some] <;> rfl)) | (simp [errW_none, errW_some, It.bne_nil] <;> rfl) | (simp [errW_none, errW_some, It.bne_nil]; done) | (simp [*, errW_none, errW_some] <;> rfl), by repeat (first | (with_reducible first | exact HI0.out | apply IsS75.alloc | apply IsS75.drewN | apply IsS75.drew | apply IsS75.set_1) | exact HI0.out), by repeat (first | (with_reducible first | exact HB.out | apply below_alloc | apply pw_below_drewN | apply below_drew1 | refine below_set ?_ (IsS75.ge HI0.out)) | exact HB.out), by repeat (first | (with_reducible first | exact HK.out | apply KeepBut.set_ | apply keep_drewN | apply keep_drew | apply keep_alloc) | exact HK.out)⟩
                    · rw [if_neg c14] at H
                      exact absurd H (by simp)
                  · rw [if_neg c13] at H
                    exact absurd H (by simp)
                · rw [if_neg c11] at H
                  have c11b0 : decide (0 < a1) = false := decide_eq_false c11
                  clear c11
                  simp only [Option.some.injEq, Prod.mk.injEq] at H
                  obtain ⟨rfl, rfl⟩ := H
                  obtain ⟨ASz16_0, cSz16_0, HGz16, hgz16, HSz16_0⟩ := HI0.out
                  have hcz16_0 := cellS75_0 HGz16
                  have hcz16_1 := cellS75_1 HGz16
                  have hfz16_1 := blk_frozen HGz16 1
                  clear HGz16 hgz16
                  have p160 : 0 ≤ (a1 : Int) := of_decide_eq_true (by first | (with_reducible assumption) | assumption)
                  have q160 : a1 < (s0_0.length : Int) := of_decide_eq_true (by first | (with_reducible assumption) | assumption)
                  obtain ⟨ad160, e160, hx160_0⟩ := Kd.at_int HSz16_0 a1 p160 q160
                  cases e160
                  replace hx160_0 := pw_cell_below HB.out hx160_0
                  (try simp only [Go.IntWalk.toNatUp] at hx160_0)
                  replace p160 := eq_true p160
                  replace q160 := eq_true q160
                  go_wp2
                  go_ret
                  exact ⟨by first | rfl | (simp [errW_none, errW_some] <;> rfl) | (simp [errW_none, errW_some, It.bne_nil] <;> rfl) | (simp [errW_none, errW_some, It.bne_nil]; done) | (simp [*, errW_none, errW_some] <;> rfl), by repeat (first | (with_reducible first | exact HI0.out | apply IsS75.alloc | apply IsS75.drewN | apply IsS75.drew | apply IsS75.set_1) | exact HI0.out), by repeat (first | (with_reducible first | exact HB.out | apply below_alloc | apply pw_below_drewN | apply below_drew1 | refine below_set ?_ (IsS75.ge HI0.out)) | exact HB.out), by repeat (first | (with_reducible first | exact HK.out | apply KeepBut.set_ | apply keep_drewN | apply keep_drew | apply keep_alloc) | exact HK.out)⟩
              · rw [if_neg c10] at H
                have c10b0 : ((wrap64 (a1 + 1)) == (s0_0.length : Int)) = false := beq_eq_false_iff_ne.mpr c10
                have c10b1 : ((wrap64 (a1 + 1)) != (s0_0.length : Int)) = true := bne_iff_ne.mpr c10
                simp only [Option.some.injEq, Prod.mk.injEq] at H
                obtain ⟨rfl, rfl⟩ := H
                obtain ⟨ASz17_0, cSz17_0, HGz17, hgz17, HSz17_0⟩ := HI0.out
                have hcz17_0 := cellS75_0 HGz17
                have hcz17_1 := cellS75_1 HGz17
                have hfz17_1 := blk_frozen HGz17 1
                clear HGz17 hgz17
                have p160 : 0 ≤ (a1 : Int) := of_decide_eq_true (by first | (with_reducible assumption) | assumption)
                have q160 : a1 < (s0_0.length : Int) := of_decide_eq_true (by first | (with_reducible assumption) | assumption)
                obtain ⟨ad160, e160, hx160_0⟩ := Kd.at_int HSz17_0 a1 p160 q160
                cases e160
                replace hx160_0 := pw_cell_below HB.out hx160_0
                (try simp only [Go.IntWalk.toNatUp] at hx160_0)
                replace p160 := eq_true p160
                replace q160 := eq_true q160
                have p162 : 0 ≤ (a1 : Int) := of_decide_eq_true (by first | (with_reducible assumption) | assumption)
                have q162 : a1 < (s0_0.length : Int) := of_decide_eq_true (by first | (with_reducible assumption) | assumption)
                obtain ⟨ad162, e162, hx162_0⟩ := Kd.at_int HSz17_0 a1 p162 q162
                obtain rfl : ad160 = ad162 := (by injection e162)
                replace hx162_0 := pw_cell_below HB.out hx162_0
                (try simp only [Go.IntWalk.toNatUp] at hx162_0)
                replace p162 := eq_true p162
                replace q162 := eq_true q162
                go_wp2
                go_ret
                exact ⟨by first | rfl | (simp [errW_none, errW_some] <;> rfl) | (simp [errW_none, errW_some, It.bne_nil] <;> rfl) | (simp [errW_none, errW_some, It.bne_nil]; done) | (simp [*, errW_none, errW_some] <;> rfl), by repeat (first | (with_reducible first | exact HI0.out | apply IsS75.alloc | apply IsS75.drewN | apply IsS75.drew | apply IsS75.set_1) | exact HI0.out), by repeat (first | (with_reducible first | exact HB.out | apply below_alloc | apply pw_below_drewN | apply below_drew1 | refine below_set ?_ (IsS75.ge HI0.out)) | exact HB.out), by repeat (first | (with_reducible first | exact HK.out | apply KeepBut.set_ | apply keep_drewN | apply keep_drew | apply keep_alloc) | exact HK.out)⟩
            · rw [if_neg c9] at H
              have c9b0 : ((rd s0_0 a1) == 5) = false := beq_eq_false_iff_ne.mpr c9
              have c9b1 : ((rd s0_0 a1) != 5) = true := bne_iff_ne.mpr c9
              simp only [Option.some.injEq, Prod.mk.injEq] at H
              obtain ⟨rfl, rfl⟩ := H
              obtain ⟨ASz18_0, cSz18_0, HGz18, hgz18, HSz18_0⟩ := HI0.out
              have hcz18_0 := cellS75_0 HGz18
              have hcz18_1 := cellS75_1 HGz18
              have hfz18_1 := blk_frozen HGz18 1
              clear HGz18 hgz18
              have p160 : 0 ≤ (a1 : Int) := of_decide_eq_true (by first | (with_reducible assumption) | assumption)
              have q160 : a1 < (s0_0.length : Int) := of_decide_eq_true (by first | (with_reducible assumption) | assumption)
              obtain ⟨ad160, e160, hx160_0⟩ := Kd.at_int HSz18_0 a1 p160 q160
              cases e160
              replace hx160_0 := pw_cell_below HB.out hx160_0
              (try simp only [Go.IntWalk.toNatUp] at hx160_0)
              replace p160 := eq_true p160
              replace q160 := eq_true q160
              have p163 : 0 ≤ (a1 : Int) := of_decide_eq_true (by first | (with_reducible assumption) | assumption)
              have q163 : a1 < (s0_0.length : Int) := of_decide_eq_true (by first | (with_reducible assumption) | assumption)
              obtain ⟨ad163, e163, hx163_0⟩ := Kd.at_int HSz18_0 a1 p163 q163
              obtain rfl : ad160 = ad163 := (by injection e163)
              replace hx163_0 := pw_cell_below HB.out hx163_0
              (try simp only [Go.IntWalk.toNatUp] at hx163_0)
              replace p163 := eq_true p163
              replace q163 := eq_true q163
              go_wp2
              go_ret
              exact ⟨by first | rfl | (simp [errW_none, errW_some] <;> rfl) | (simp [errW_none, errW_some, It.bne_nil] <;> rfl) | (simp [errW_none, errW_some, It.bne_nil]; done) | (simp [*, errW_none, errW_some] <;> rfl), by repeat (first | (with_reducible first | exact HI0.out | apply IsS75.alloc | apply IsS75.drewN | apply IsS75.drew | apply IsS75.set_1) | exact HI0.out), by repeat (first | (with_reducible first | exact HB.out | apply below_alloc | apply pw_below_drewN | apply below_drew1 | refine below_set ?_ (IsS75.ge HI0.out)) | exact HB.out), by repeat (first | (with_reducible first | exact HK.out | apply KeepBut.set_ | apply keep_drewN | apply keep_drew | apply keep_alloc) | exact HK.out)⟩
          · rw [if_neg c8] at H
            exact absurd H (by simp)
        · rw [if_neg c7] at H
          exact absurd H (by simp)

/-! ### lightstrconv_decimal_whole: function 44 -/
def lightstrconv_decimal_whole.l0 : Nat → Int → Int → List Int → Int → Option (Int × Int)
  | 0, _, _, _, _ => none
  | k + 1, x3, x4, x1000, x1001 => if x4 < x1001 then ((lightstrconv_decimal_digit.f x1000 x1001 x4).bind fun bt164 => (lightstrconv_decimal_whole.l0 k (IntKind.u64.wrap ((IntKind.u64.wrap (x3 * 10)) + (IntKind.u64.wrap (bt164.1)))) (wrap64 (x4 + 1)) x1000 bt164.2)) else ((lightstrconv_decimal_nearUp.f k x1000 x1001 x1001).bind fun bt166 => (if bt166.1 = true then (some (IntKind.u64.wrap (x3 + 1), bt166.2)) else (some (x3, bt166.2))))
def lightstrconv_decimal_whole.f (k : Nat) (s0_0 : List Int) (s0_1 : Int) : Option (Int × Int) := lightstrconv_decimal_whole.l0 k 0 0 s0_0 s0_1
theorem lightstrconv_decimal_whole.mono_l : ∀ k, (∀ y0 y1 y2 y3, LeO (lightstrconv_decimal_whole.l0 k y0 y1 y2 y3) (lightstrconv_decimal_whole.l0 (k + 1) y0 y1 y2 y3))
  | 0 => fun _ _ _ _ r h => by simp [lightstrconv_decimal_whole.l0] at h
  | k + 1 => by
    have ih0 := lightstrconv_decimal_whole.mono_l k
    · intro y0 y1 y2 y3
      unfold lightstrconv_decimal_whole.l0
      repeat' first
      | (with_reducible exact ih0 _ _ _ _)
      | (with_reducible exact lightstrconv_decimal_nearUp.mono _ _ _ _)
      | (with_reducible exact LeO.refl _)
      | (with_reducible exact LeO.none _)
      | (with_reducible refine LeO.ite ?_ ?_)
      | (with_reducible refine LeO.bind ?_ (fun _ => ?_))
      | exact ih0 _ _ _ _
      | exact lightstrconv_decimal_nearUp.mono _ _ _ _
      | exact LeO.none _
      | refine LeO.ite ?_ ?_
      | refine LeO.bind ?_ (fun _ => ?_)
theorem lightstrconv_decimal_whole.mono : ∀ a0 a1 k, LeO (lightstrconv_decimal_whole.f k a0 a1) (lightstrconv_decimal_whole.f (k + 1) a0 a1) := by
  intro a0 a1 k
  have ih0 := lightstrconv_decimal_whole.mono_l k
  unfold lightstrconv_decimal_whole.f
  repeat' first
      | (with_reducible exact ih0 _ _ _ _)
      | (with_reducible exact lightstrconv_decimal_nearUp.mono _ _ _ _)
      | (with_reducible exact LeO.refl _)
      | (with_reducible exact LeO.none _)
      | (with_reducible refine LeO.ite ?_ ?_)
      | (with_reducible refine LeO.bind ?_ (fun _ => ?_))
      | exact ih0 _ _ _ _
      | exact lightstrconv_decimal_nearUp.mono _ _ _ _
      | exact LeO.none _
      | refine LeO.ite ?_ ?_
      | refine LeO.bind ?_ (fun _ => ?_)
set_option maxHeartbeats 8000000 in
set_option maxRecDepth 100000 in
theorem lightstrconv_decimal_whole.calls (k : Nat) (g : Nat) (s0_0 : List Int) (s0_1 : Int) (r1 : Int) (r2 : Int) (w0 w : World) (hI : IsS75 w0 w g s0_0 s0_1) (hB : Below w0.heap.size w0 w) (h : lightstrconv_decimal_whole.f k s0_0 s0_1 = some (r1, r2)) :
    Calls Tryd.prog 44 #[.pointer (some ⟨g, 0, none⟩)] w fun e w' => e = .returned (.int .u64 r1) ∧ IsS75 w0 w' g s0_0 r2 ∧ Below w0.heap.size w0 w' ∧ KeepBut w w' g none := by
  have HI0 := Aside0.mk hI
  have HK := Aside0.mk (KeepBut.refl w g none)
  have HL := Aside0.mk hB.size
  clear hI
  have HW0 := Aside0.mk hB.size
  have HB := Aside0.mk hB
  clear hB
  have H : (lightstrconv_decimal_whole.l0 k 0 0 s0_0 s0_1) = some (r1, r2) := h
  clear h
  have H' := Aside0.mk H
  clear H
  go_enter Tryd.func44, Tryd.ntmps44
  go_wp2
  go_loopg [3, 4] k (fun kq v3 v4 w' => ∃ (x3_1 : Int) (x4_1 : Int) (x1001_1 : Int), v3 = .int .u64 x3_1 ∧ v4 = .int .i64 x4_1 ∧ Aside0 (lightstrconv_decimal_whole.l0 kq x3_1 x4_1 s0_0 x1001_1 = some (r1, r2)) ∧ Aside0 (kq ≤ k) ∧ Aside0 (IsS75 w0 w' g s0_0 x1001_1) ∧ Aside0 (KeepBut w w' g none) ∧ Aside0 (Below w0.heap.size w0 w'))
  case atStart => exact ⟨(0), (0), (s0_1), (by first | rfl | (simp; done) | (simp [*]; done)), (by first | rfl | (simp; done) | (simp [*]; done)), H', ⟨Nat.le_refl _⟩, ⟨by repeat (first | (with_reducible first | exact HI0.out | apply IsS75.alloc | apply IsS75.drewN | apply IsS75.drew | apply IsS75.set_1) | exact HI0.out)⟩, ⟨by repeat (first | (with_reducible first | exact HK.out | apply KeepBut.set_ | apply keep_drewN | apply keep_drew | apply keep_alloc) | exact HK.out)⟩, ⟨by repeat (first | (with_reducible first | exact HB.out | apply below_alloc | apply pw_below_drewN | apply below_drew1 | refine below_set ?_ (IsS75.ge HI0.out)) | exact HB.out)⟩⟩
  case round =>
    clear H'
    obtain ⟨x3_1, x4_1, x1001_1, rfl, rfl, HA, HK1, HI0, HK, HB⟩ := hrel
    cases gk with
    | zero => exact absurd HA.out (by simp [lightstrconv_decimal_whole.l0])
    | succ k1 =>
      have H := HA.out
      clear HA
      simp only [lightstrconv_decimal_whole.l0] at H
      by_cases c2 : x4_1 < x1001_1
      · rw [if_pos c2] at H
        have c2b0 : decide (x4_1 < x1001_1) = true := decide_eq_true c2
        clear c2
        replace H := Option.bind_eq_some_iff.mp H
        obtain ⟨⟨t164, t165⟩, A30, H⟩ := H
        replace H : (lightstrconv_decimal_whole.l0 k1 (IntKind.u64.wrap ((IntKind.u64.wrap (x3_1 * 10)) + (IntKind.u64.wrap (t164)))) (wrap64 (x4_1 + 1)) s0_0 t165) = some (r1, r2) := H
        have A3 := Aside0.mk A30
        clear A30
        have H' := Aside0.mk H
        clear H
        obtain ⟨ASz4_0, cSz4_0, HGz4, hgz4, HSz4_0⟩ := HI0.out
        have hcz4_0 := cellS75_0 HGz4
        have hcz4_1 := cellS75_1 HGz4
        have hfz4_1 := blk_frozen HGz4 1
        clear HGz4 hgz4
        go_wp2_with (first | ((with_reducible refine gate_callee (f := 51) rfl ?_); refine goesL_ (some 17) rfl rfl Tryd.func51 (by kernel_rfl) rfl #[.pointer (some ⟨g, 0, none⟩), .int .i64 x4_1] rfl (by (try simp only [List.map_toArray, List.map_cons, List.map_nil]); first | done | rfl | (simp only [List.length_drop, List.length_take]; rfl)) ?_; (with_reducible refine (lightstrconv_decimal_digit.calls g s0_0 x1001_1 x4_1 t164 t165 w0 _ ?side1 ?side2 A3.out).mono ?_); (case side1 => repeat (first | (with_reducible first | exact HI0.out | apply IsS75.alloc | apply IsS75.drewN | apply IsS75.drew | apply IsS75.set_1) | exact HI0.out)); (case side2 => repeat (first | (with_reducible first | exact HB.out | apply below_alloc | apply pw_below_drewN | apply below_drew1 | refine below_set ?_ (IsS75.ge HI0.out)) | exact HB.out)); rintro e w5 ⟨rfl, hi, hb, hk⟩; refine ⟨_, rfl, ?_⟩; have n0_ := Aside0.mk (KeepBut.trans (by repeat (first | (with_reducible first | exact HK.out | apply KeepBut.set_ | apply keep_drewN | apply keep_drew | apply keep_alloc) | exact HK.out)) hk (.inl rfl)); have n1_ := Aside0.mk (hb); have n2_ := Aside0.mk (hi); clear HK; clear HB; clear HI0; have HK := n0_; have HB := n1_; have HI0 := n2_; clear n0_ n1_ n2_; (try clear hb); (try clear hb2); (try clear hk); (try clear hi)))
        go_roundg k1
        case measure => have := HK1.out; omega
        case rel => exact ⟨(IntKind.u64.wrap ((IntKind.u64.wrap (x3_1 * 10)) + (IntKind.u64.wrap (t164)))), (wrap64 (x4_1 + 1)), (t165), (by first | rfl | (simp; done) | (simp [*]; done)), (by first | rfl | (simp; done) | (simp [*]; done)), H', ⟨by have := HK1.out; omega⟩, ⟨by repeat (first | (with_reducible first | exact HI0.out | apply IsS75.alloc | apply IsS75.drewN | apply IsS75.drew | apply IsS75.set_1) | exact HI0.out)⟩, ⟨by repeat (first | (with_reducible first | exact HK.out | apply KeepBut.set_ | apply keep_drewN | apply keep_drew | apply keep_alloc) | exact HK.out)⟩, ⟨by repeat (first | (with_reducible first | exact HB.out | apply below_alloc | apply pw_below_drewN | apply below_drew1 | refine below_set ?_ (IsS75.ge HI0.out)) | exact HB.out)⟩⟩
      · rw [if_neg c2] at H
        have c2b0 : decide (x4_1 < x1001_1) = false := decide_eq_false c2
        clear c2
        replace H := Option.bind_eq_some_iff.mp H
        obtain ⟨⟨t166, t167⟩, A60, H⟩ := H
        replace H : (if t166 = true then (some (IntKind.u64.wrap (x3_1 + 1), t167)) else (some (x3_1, t167))) = some (r1, r2) := H
        have A6 := Aside0.mk A60
        clear A60
        by_cases c7 : t166 = true
        · subst c7
          have H1 : (some (IntKind.u64.wrap (x3_1 + 1), t167)) = some (r1, r2) := by rw [if_pos rfl] at H; exact H
          clear H
          have H := H1
          clear H1
          simp only [Option.some.injEq, Prod.mk.injEq] at H
          obtain ⟨rfl, rfl⟩ := H
          obtain ⟨ASz8_0, cSz8_0, HGz8, hgz8, HSz8_0⟩ := HI0.out
          have hcz8_0 := cellS75_0 HGz8
          have hcz8_1 := cellS75_1 HGz8
          have hfz8_1 := blk_frozen HGz8 1
          clear HGz8 hgz8
          go_wp2_with (first | ((with_reducible refine gate_callee (f := 52) rfl ?_); refine goesL_ (some 25) rfl rfl Tryd.func52 (by kernel_rfl) rfl #[.pointer (some ⟨g, 0, none⟩), .int .i64 x1001_1] rfl (by (try simp only [List.map_toArray, List.map_cons, List.map_nil]); first | done | rfl | (simp only [List.length_drop, List.length_take]; rfl)) ?_; (with_reducible refine (lightstrconv_decimal_nearUp.calls k1 g s0_0 x1001_1 x1001_1 true t167 w0 _ ?side1 ?side2 A6.out).mono ?_); (case side1 => repeat (first | (with_reducible first | exact HI0.out | apply IsS75.alloc | apply IsS75.drewN | apply IsS75.drew | apply IsS75.set_1) | exact HI0.out)); (case side2 => repeat (first | (with_reducible first | exact HB.out | apply below_alloc | apply pw_below_drewN | apply below_drew1 | refine below_set ?_ (IsS75.ge HI0.out)) | exact HB.out)); rintro e w9 ⟨rfl, hi, hb, hk⟩; refine ⟨_, rfl, ?_⟩; have n0_ := Aside0.mk (KeepBut.trans (by repeat (first | (with_reducible first | exact HK.out | apply KeepBut.set_ | apply keep_drewN | apply keep_drew | apply keep_alloc) | exact HK.out)) hk (.inl rfl)); have n1_ := Aside0.mk (hb); have n2_ := Aside0.mk (hi); clear HK; clear HB; clear HI0; have HK := n0_; have HB := n1_; have HI0 := n2_; clear n0_ n1_ n2_; (try clear hb); (try clear hb2); (try clear hk); (try clear hi)))
          go_ret
          exact ⟨by first | rfl | (simp [errW_none, errW_some] <;> rfl) | (simp [errW_none, errW_some, It.bne_nil] <;> rfl) | (simp [errW_none, errW_some, It.bne_nil]; done) | (simp [*, errW_none, errW_some] <;> rfl), by repeat (first | (with_reducible first | exact HI0.out | apply IsS75.alloc | apply IsS75.drewN | apply IsS75.drew | apply IsS75.set_1) | exact HI0.out), by repeat (first | (with_reducible first | exact HB.out | apply below_alloc | apply pw_below_drewN | apply below_drew1 | refine below_set ?_ (IsS75.ge HI0.out)) | exact HB.out), by repeat (first | (with_reducible first | exact HK.out | apply KeepBut.set_ | apply keep_drewN | apply keep_drew | apply keep_alloc) | exact HK.out)⟩
        · replace c7 := Bool.eq_false_iff.mpr c7
          subst c7
          have H1 : (some (x3_1, t167)) = some (r1, r2) := by rw [if_neg (show ¬ (false = true) by decide)] at H; exact H
          clear H
          have H := H1
          clear H1
          simp only [Option.some.injEq, Prod.mk.injEq] at H
          obtain ⟨rfl, rfl⟩ := H
          obtain ⟨ASz10_0, cSz10_0, HGz10, hgz10, HSz10_0⟩ := HI0.out
          have hcz10_0 := cellS75_0 HGz10
          have hcz10_1 := cellS75_1 HGz10
          have hfz10_1 := blk_frozen HGz10 1
          clear HGz10 hgz10
          go_wp2_with (first | ((with_reducible refine gate_callee (f := 52) rfl ?_); refine goesL_ (some 25) rfl rfl Tryd.func52 (by kernel_rfl) rfl #[.pointer (some ⟨g, 0, none⟩), .int .i64 x1001_1] rfl (by (try simp only [List.map_toArray, List.map_cons, List.map_nil]); first | done | rfl | (simp only [List.length_drop, List.length_take]; rfl)) ?_; (with_reducible refine (lightstrconv_decimal_nearUp.calls k1 g s0_0 x1001_1 x1001_1 false t167 w0 _ ?side1 ?side2 A6.out).mono ?_); (case side1 => repeat (first | (with_reducible first | exact HI0.out | apply IsS75.alloc | apply IsS75.drewN | apply IsS75.drew | apply IsS75.set_1) | exact HI0.out)); (case side2 => repeat (first | (with_reducible first | exact HB.out | apply below_alloc | apply pw_below_drewN | apply below_drew1 | refine below_set ?_ (IsS75.ge HI0.out)) | exact HB.out)); rintro e w11 ⟨rfl, hi, hb, hk⟩; refine ⟨_, rfl, ?_⟩; have n0_ := Aside0.mk (KeepBut.trans (by repeat (first | (with_reducible first | exact HK.out | apply KeepBut.set_ | apply keep_drewN | apply keep_drew | apply keep_alloc) | exact HK.out)) hk (.inl rfl)); have n1_ := Aside0.mk (hb); have n2_ := Aside0.mk (hi); clear HK; clear HB; clear HI0; have HK := n0_; have HB := n1_; have HI0 := n2_; clear n0_ n1_ n2_; (try clear hb); (try clear hb2); (try clear hk); (try clear hi)))
          go_ret
          exact ⟨by first | rfl | (simp [errW_none, errW_some] <;> rfl) | (simp [errW_none, errW_some, It.bne_nil] <;> rfl) | (simp [errW_none, errW_some, It.bne_nil]; done) | (simp [*, errW_none, errW_some] <;> rfl), by repeat (first | (with_reducible first | exact HI0.out | apply IsS75.alloc | apply IsS75.drewN | apply IsS75.drew | apply IsS75.set_1) | exact HI0.out), by repeat (first | (with_reducible first | exact HB.out | apply below_alloc | apply pw_below_drewN | apply below_drew1 | refine below_set ?_ (IsS75.ge HI0.out)) | exact HB.out), by repeat (first | (with_reducible first | exact HK.out | apply KeepBut.set_ | apply keep_drewN | apply keep_drew | apply keep_alloc) | exact HK.out)⟩

-- NOT PRINTED: function 28 (lightstrconv_decimal_bits)

-- NOT PRINTED: function 12 (lightstrconv_ParseFloat)

-- NOT PRINTED: function 13 (table_lessNumericVal)

-- NOT PRINTED: function 9 (table_lessNumeric)

-- NOT PRINTED: function 10 (table_lessMixedMode)

-- NOT PRINTED: function 7 (table_less)

-- NOT PRINTED: function 6 (table_ZzLess)

-- NOT PRINTED: function 4 (impl_Before)

-- NOT PRINTED: function 5 (laws_orders)

-- NOT PRINTED: function 3 (laws_FnBeforeFalls)

end Go.Proofs.YtnmochachiieaaaDoor.PFnBeforeFalls
