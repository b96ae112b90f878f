-- Written by hprint.py, a program of this session
import Derived.Test.YtimefacdnabkdaaPTotalx0
namespace Go.Proofs.Ytimefacdnabkdaa.PTotal
open Go.RowKit Go.Proofs.YtimefacdnabkdaaW.PrintWords Go.Proofs.YtimefacdnabkdaaW.PrintLast Go.Proofs.YtimefacdnabkdaaW.PrintMore
attribute [local go_sem] max2_int min2_int max_two min_two max_three min_three max_four min_four   -- for this text's walks alone
set_option linter.unusedVariables false
set_option linter.unusedSimpArgs false

/-- A state of type 44 at block g of W; what its slices lead to came in by w0. -/
def IsS44 (w0 W : World) (g : Nat) (f0 : Int) : Prop := W.heap[g]? = some (.cells #[.int .i64 f0] 44 (0, 0)) ∧ w0.heap.size ≤ g
theorem IsS44.grown {w0 W : World} {g : Nat} {f0 : Int} {W1 : World} {row : Option Nat} (h : IsS44 w0 W g f0) (hw : W.grownBy W1 row) (hne : some g ≠ row) : IsS44 w0 W1 g f0 := by
  obtain ⟨hb, hg⟩ := h
  exact ⟨blk_grown hb hw hne, hg⟩
theorem IsS44.own_neN {w0 W : World} {g : Nat} {f0 : Int} {α : Type} {d : Kd α} {e : Nat} {base : Nat} {ok : Nat → Prop} {v : Value} {xs : List α} (h : IsS44 w0 W g f0) (ho : Kd.N d e W base ok v xs) (ht : e ≠ 44) : some g ≠ v.ownBlock := by
  obtain ⟨hb, hg⟩ := h
  exact Kd.N_ne ho hb ht
theorem IsS44.fresh {w0 W : World} {g : Nat} {f0 : Int} (h : IsS44 w0 W g f0) : ∀ k, W.heap.size ≤ k → k ≠ g := by
  obtain ⟨hb, hg⟩ := h
  exact Kd.freshB hb
theorem IsS44.kept {w0 W : World} {g : Nat} {f0 : Int} {W1 : World} {S : Nat → Prop} (h : IsS44 w0 W g f0) (hk : Kept W W1 S) (hne : ¬ S g) : IsS44 w0 W1 g f0 := by
  obtain ⟨hb, hg⟩ := h
  exact ⟨blk_kept hb hk hne, hg⟩
theorem IsS44.below {w0 W : World} {g : Nat} {f0 : Int} {W1 : World} (h : IsS44 w0 W g f0) (hw : Below W.heap.size W W1) : IsS44 w0 W1 g f0 := h.grown (grown_of_below hw none) (by simp)
theorem IsS44.alloc {w0 W : World} {g : Nat} {f0 : Int} (h : IsS44 w0 W g f0) (o : Obj) : IsS44 w0 (W.alloc o) g f0 := h.below (below_alloc (Below.refl _ _) o)
theorem IsS44.drewN {w0 W : World} {g : Nat} {f0 : Int} (h : IsS44 w0 W g f0) (m : Nat) : IsS44 w0 (W.drewN m) g f0 := h
theorem IsS44.drew {w0 W : World} {g : Nat} {f0 : Int} (h : IsS44 w0 W g f0) : IsS44 w0 W.drew g f0 := h
theorem IsS44.at_ {w0 W : World} {g : Nat} {f0 : Int} {w' : World} {m : Nat} (hq : W.drewN m = w') (h : IsS44 w0 W g f0) : IsS44 w0 w' g f0 := by subst hq; exact IsS44.drewN h m
theorem IsS44.apart {w0 W : World} {g : Nat} {f0 : Int} {α : Type} {d : Kd α} {e : Nat} {base : Nat} {ok : Nat → Prop} {v : Value} {xs : List α} (h : IsS44 w0 W g f0) (ho : d.R e W base ok v xs) (ht : ∀ q, q ∈ e :: d.E → q ≠ 44) : d.R e W base (fun k => ok k ∧ k ≠ g) v xs := by
  obtain ⟨hb, hg⟩ := h
  exact Kd.R_types ho hb ht
theorem IsS44.own_ne {w0 W : World} {g : Nat} {f0 : Int} {α : Type} {d : Kd α} {e : Nat} {base : Nat} {ok : Nat → Prop} {v : Value} {xs : List α} (h : IsS44 w0 W g f0) (ho : d.R e W base ok v xs) (ht : e ≠ 44) : some g ≠ v.ownBlock := by
  obtain ⟨hb, hg⟩ := h
  exact Kd.R_ne ho hb ht
theorem IsS44.apartQ {w0 W : World} {g : Nat} {f0 : Int} {α : Type} {d : Kd α} {e : Nat} {base : Nat} {ok : Nat → Prop} {v : Value} {xs : List α} (h : IsS44 w0 W g f0) (ho : d.Q e W base ok v xs) (ht : ∀ q, q ∈ e :: d.E → q ≠ 44) : d.Q e W base (fun k => ok k ∧ k ≠ g) v xs := by
  obtain ⟨hb, hg⟩ := h
  exact Kd.Q_types ho hb ht
theorem IsS44.own_neQ {w0 W : World} {g : Nat} {f0 : Int} {α : Type} {d : Kd α} {e : Nat} {base : Nat} {ok : Nat → Prop} {v : Value} {xs : List α} (h : IsS44 w0 W g f0) (ho : d.Q e W base ok v xs) (ht : e ≠ 44) : some g ≠ v.ownBlock := by
  obtain ⟨hb, hg⟩ := h
  exact Kd.Q_ne ho hb ht
theorem IsS44.apartS {w0 W : World} {g : Nat} {f0 : Int} {α : Type} {d : Kd α} {e : Nat} {base : Nat} {ok : Nat → Prop} {v : Value} {xs : List α} (h : IsS44 w0 W g f0) (ho : d.S e W base ok v xs) (ht : ∀ q, q ∈ e :: d.E → q ≠ 44) : d.S e W base (fun k => ok k ∧ k ≠ g) v xs := by
  obtain ⟨hb, hg⟩ := h
  exact Kd.S_types ho hb ht
theorem IsS44.own_neS {w0 W : World} {g : Nat} {f0 : Int} {α : Type} {d : Kd α} {e : Nat} {base : Nat} {ok : Nat → Prop} {v : Value} {xs : List α} (h : IsS44 w0 W g f0) (ho : d.S e W base ok v xs) (ht : e ≠ 44) : some g ≠ v.ownBlock := by
  obtain ⟨hb, hg⟩ := h
  exact Kd.S_ne ho hb ht
theorem IsS44.lt {w0 W : World} {g : Nat} {f0 : Int} (h : IsS44 w0 W g f0) : g < W.heap.size := by
  obtain ⟨hb, hg⟩ := h
  exact blk_lt hb
theorem IsS44.ge {w0 W : World} {g : Nat} {f0 : Int} (h : IsS44 w0 W g f0) : w0.heap.size ≤ g := by
  obtain ⟨hb, hg⟩ := h
  exact hg
theorem IsS44.ne_blk {w0 W : World} {g : Nat} {f0 : Int} {a : Nat} {cs : Array Value} {t : TypeId} {fr : Nat × Nat} (h : IsS44 w0 W g f0) (hb2 : W.heap[a]? = some (.cells cs t fr)) (ht : t ≠ 44) : g ≠ a := by
  obtain ⟨hb, hg⟩ := h
  rintro rfl
  rw [hb] at hb2
  injection hb2 with hb2
  injection hb2 with _ ht2
  exact ht ht2.symm
theorem IsS44.far {w0 W : World} {g : Nat} {f0 : Int} {p : Addr} (h : IsS44 w0 W g f0) (hne : g ≠ p.block) (u : Value) : IsS44 w0 (W.setCell p u) g f0 := by
  obtain ⟨hb, hg⟩ := h
  exact ⟨blk_far hb hne u, hg⟩
theorem cellS44_0 {W : World} {g : Nat} {f0 : Int} (h : W.heap[g]? = some (.cells #[.int .i64 f0] 44 (0, 0))) : W.cell? ⟨g, 0, none⟩ = some (.int .i64 f0) := (blk_cell h 0).trans rfl
theorem IsS44.set_0 {w0 W : World} {g : Nat} {f0 : Int} (h : IsS44 w0 W g f0) (x : Int) : IsS44 w0 (W.setCell ⟨g, 0, none⟩ (.int .i64 x)) g x := by
  obtain ⟨hb, hg⟩ := h
  exact ⟨by simpa using blk_set hb 0 (.int .i64 x), hg⟩
theorem IsS44.new (w0 W : World) (f0 : Int) (hB : Below w0.heap.size w0 W) : IsS44 w0 (W.alloc (.cells #[.int .i64 f0] 44)) W.heap.size f0 := ⟨by simpa using heap_alloc_new W _, hB.size⟩

/-! ### tw_LineCounter_Total: function 26 -/
def tw_LineCounter_Total.f (s0_0 : Int) : Option (Int × Int) := some (s0_0, s0_0)
set_option maxHeartbeats 8000000 in
set_option maxRecDepth 100000 in
theorem tw_LineCounter_Total.calls (g : Nat) (s0_0 : Int) (r1 : Int) (r2 : Int) (w0 w : World) (hI : IsS44 w0 w g s0_0) (hB : Below w0.heap.size w0 w) (h : tw_LineCounter_Total.f s0_0 = some (r1, r2)) :
    Calls Try.prog 26 #[.pointer (some ⟨g, 0, none⟩)] w fun e w' => e = .returned (.int .i64 r1) ∧ IsS44 w0 w' g r2 ∧ Below w0.heap.size w0 w' ∧ KeepBut w w' g none := by
  have HI0 := Aside0.mk hI
  have HK := Aside0.mk (KeepBut.refl w g none)
  have HL := Aside0.mk hB.size
  clear hI
  have HW0 := Aside0.mk hB.size
  have HB := Aside0.mk hB
  clear hB
  have H : (some (s0_0, s0_0)) = some (r1, r2) := h
  clear h
  simp only [Option.some.injEq, Prod.mk.injEq] at H
  obtain ⟨rfl, rfl⟩ := H
  obtain ⟨HGz2, hgz2⟩ := HI0.out
  have hcz2_0 := cellS44_0 HGz2
  have hfz2_0 := blk_frozen HGz2 0
  clear HGz2 hgz2
  go_enter Try.func26, Try.ntmps26
  go_wp2
  go_ret
  exact ⟨by first | rfl | (simp [errW_none, errW_some] <;> rfl) | (simp [*, errW_none, errW_some] <;> rfl), by repeat (first | (with_reducible first | exact HI0.out | apply IsS44.alloc | apply IsS44.drewN | apply IsS44.drew | apply IsS44.set_0) | exact HI0.out), by repeat (first | (with_reducible first | exact HB.out | apply below_alloc | apply pw_below_drewN | apply below_drew1 | refine below_set ?_ (IsS44.ge HI0.out)) | exact HB.out), by repeat (first | (with_reducible first | exact HK.out | apply KeepBut.set_ | apply keep_drewN | apply keep_drew | apply keep_alloc) | exact HK.out)⟩

end Go.Proofs.Ytimefacdnabkdaa.PTotal
