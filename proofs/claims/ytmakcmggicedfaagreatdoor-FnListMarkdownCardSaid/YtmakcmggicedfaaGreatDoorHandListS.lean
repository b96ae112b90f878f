/- The styles by their numbers (Markdown's). -/
import Derived.Test.YtmakcmggicedfaaGreatDoorHandListR
namespace Go.Proofs.YtmakcmggicedfaaGreatDoor.Hand
open Go.RowKit Go.Proofs.YtmakcmggicedfaaGreatDoorW.PrintWords Go.Proofs.YtmakcmggicedfaaGreatDoor.Base
set_option linter.unusedVariables false
set_option linter.unusedSimpArgs false

/-- A style's first 10 fields, stored. -/
def setSty (w : World) (X : Nat) (s : Sty) : World := (((((((((w.setCell ⟨X, 0, none⟩ (.int .i64 s.fmt)).setCell ⟨X, 1, none⟩ (.string s.single)).setCell ⟨X, 2, none⟩ (.string s.top)).setCell ⟨X, 3, none⟩ (.string s.first)).setCell ⟨X, 4, none⟩ (.string s.middle)).setCell ⟨X, 5, none⟩ (.string s.vert)).setCell ⟨X, 6, none⟩ (.string s.bottom)).setCell ⟨X, 7, none⟩ (.string s.newline)).setCell ⟨X, 8, none⟩ (.string s.pre)).setCell ⟨X, 9, none⟩ (.string s.name)
theorem setSty_blk {w : World} {X : Nat} {a0 a1 a2 a3 a4 a5 a6 a7 a8 a9 : Value} {T : TypeId} (h : w.heap[X]? = some (.cells #[a0, a1, a2, a3, a4, a5, a6, a7, a8, a9] T (0, 0))) (s : Sty) : (setSty w X s).heap[X]? = some (.cells #[.int .i64 s.fmt, .string s.single, .string s.top, .string s.first, .string s.middle, .string s.vert, .string s.bottom, .string s.newline, .string s.pre, .string s.name] T (0, 0)) := by
  have h0 := blk_set h 0 (.int .i64 s.fmt)
  simp only [List.setIfInBounds_toArray, List.set_cons_zero, List.set_cons_succ] at h0
  have h1 := blk_set h0 1 (.string s.single)
  simp only [List.setIfInBounds_toArray, List.set_cons_zero, List.set_cons_succ] at h1
  have h2 := blk_set h1 2 (.string s.top)
  simp only [List.setIfInBounds_toArray, List.set_cons_zero, List.set_cons_succ] at h2
  have h3 := blk_set h2 3 (.string s.first)
  simp only [List.setIfInBounds_toArray, List.set_cons_zero, List.set_cons_succ] at h3
  have h4 := blk_set h3 4 (.string s.middle)
  simp only [List.setIfInBounds_toArray, List.set_cons_zero, List.set_cons_succ] at h4
  have h5 := blk_set h4 5 (.string s.vert)
  simp only [List.setIfInBounds_toArray, List.set_cons_zero, List.set_cons_succ] at h5
  have h6 := blk_set h5 6 (.string s.bottom)
  simp only [List.setIfInBounds_toArray, List.set_cons_zero, List.set_cons_succ] at h6
  have h7 := blk_set h6 7 (.string s.newline)
  simp only [List.setIfInBounds_toArray, List.set_cons_zero, List.set_cons_succ] at h7
  have h8 := blk_set h7 8 (.string s.pre)
  simp only [List.setIfInBounds_toArray, List.set_cons_zero, List.set_cons_succ] at h8
  have h9 := blk_set h8 9 (.string s.name)
  simp only [List.setIfInBounds_toArray, List.set_cons_zero, List.set_cons_succ] at h9
  exact h9
theorem setSty_far {w : World} {X k : Nat} {cs : Array Value} {T : TypeId} (h : w.heap[k]? = some (.cells cs T (0, 0))) (hk : k ≠ X) (s : Sty) : (setSty w X s).heap[k]? = some (.cells cs T (0, 0)) := by
  have h0 := blk_far h (p := ⟨X, 0, none⟩) hk (.int .i64 s.fmt)
  have h1 := blk_far h0 (p := ⟨X, 1, none⟩) hk (.string s.single)
  have h2 := blk_far h1 (p := ⟨X, 2, none⟩) hk (.string s.top)
  have h3 := blk_far h2 (p := ⟨X, 3, none⟩) hk (.string s.first)
  have h4 := blk_far h3 (p := ⟨X, 4, none⟩) hk (.string s.middle)
  have h5 := blk_far h4 (p := ⟨X, 5, none⟩) hk (.string s.vert)
  have h6 := blk_far h5 (p := ⟨X, 6, none⟩) hk (.string s.bottom)
  have h7 := blk_far h6 (p := ⟨X, 7, none⟩) hk (.string s.newline)
  have h8 := blk_far h7 (p := ⟨X, 8, none⟩) hk (.string s.pre)
  have h9 := blk_far h8 (p := ⟨X, 9, none⟩) hk (.string s.name)
  exact h9
theorem setSty_below {w0 w : World} {X B : Nat} (h : Below B w0 w) (hX : B ≤ X) (s : Sty) : Below B w0 (setSty w X s) := ((((((((((h.setCell (p := ⟨X, 0, none⟩) hX _).setCell (p := ⟨X, 1, none⟩) hX _).setCell (p := ⟨X, 2, none⟩) hX _).setCell (p := ⟨X, 3, none⟩) hX _).setCell (p := ⟨X, 4, none⟩) hX _).setCell (p := ⟨X, 5, none⟩) hX _).setCell (p := ⟨X, 6, none⟩) hX _).setCell (p := ⟨X, 7, none⟩) hX _).setCell (p := ⟨X, 8, none⟩) hX _).setCell (p := ⟨X, 9, none⟩) hX _)
/-- A style's first 9 fields, stored. -/
def setSty9 (w : World) (X : Nat) (s : Sty) : World := ((((((((w.setCell ⟨X, 0, none⟩ (.int .i64 s.fmt)).setCell ⟨X, 1, none⟩ (.string s.single)).setCell ⟨X, 2, none⟩ (.string s.top)).setCell ⟨X, 3, none⟩ (.string s.first)).setCell ⟨X, 4, none⟩ (.string s.middle)).setCell ⟨X, 5, none⟩ (.string s.vert)).setCell ⟨X, 6, none⟩ (.string s.bottom)).setCell ⟨X, 7, none⟩ (.string s.newline)).setCell ⟨X, 8, none⟩ (.string s.pre)
theorem setSty9_blk {w : World} {X : Nat} {a0 a1 a2 a3 a4 a5 a6 a7 a8 : Value} {T : TypeId} (h : w.heap[X]? = some (.cells #[a0, a1, a2, a3, a4, a5, a6, a7, a8] T (0, 0))) (s : Sty) : (setSty9 w X s).heap[X]? = some (.cells #[.int .i64 s.fmt, .string s.single, .string s.top, .string s.first, .string s.middle, .string s.vert, .string s.bottom, .string s.newline, .string s.pre] T (0, 0)) := by
  have h0 := blk_set h 0 (.int .i64 s.fmt)
  simp only [List.setIfInBounds_toArray, List.set_cons_zero, List.set_cons_succ] at h0
  have h1 := blk_set h0 1 (.string s.single)
  simp only [List.setIfInBounds_toArray, List.set_cons_zero, List.set_cons_succ] at h1
  have h2 := blk_set h1 2 (.string s.top)
  simp only [List.setIfInBounds_toArray, List.set_cons_zero, List.set_cons_succ] at h2
  have h3 := blk_set h2 3 (.string s.first)
  simp only [List.setIfInBounds_toArray, List.set_cons_zero, List.set_cons_succ] at h3
  have h4 := blk_set h3 4 (.string s.middle)
  simp only [List.setIfInBounds_toArray, List.set_cons_zero, List.set_cons_succ] at h4
  have h5 := blk_set h4 5 (.string s.vert)
  simp only [List.setIfInBounds_toArray, List.set_cons_zero, List.set_cons_succ] at h5
  have h6 := blk_set h5 6 (.string s.bottom)
  simp only [List.setIfInBounds_toArray, List.set_cons_zero, List.set_cons_succ] at h6
  have h7 := blk_set h6 7 (.string s.newline)
  simp only [List.setIfInBounds_toArray, List.set_cons_zero, List.set_cons_succ] at h7
  have h8 := blk_set h7 8 (.string s.pre)
  simp only [List.setIfInBounds_toArray, List.set_cons_zero, List.set_cons_succ] at h8
  exact h8
theorem setSty9_far {w : World} {X k : Nat} {cs : Array Value} {T : TypeId} (h : w.heap[k]? = some (.cells cs T (0, 0))) (hk : k ≠ X) (s : Sty) : (setSty9 w X s).heap[k]? = some (.cells cs T (0, 0)) := by
  have h0 := blk_far h (p := ⟨X, 0, none⟩) hk (.int .i64 s.fmt)
  have h1 := blk_far h0 (p := ⟨X, 1, none⟩) hk (.string s.single)
  have h2 := blk_far h1 (p := ⟨X, 2, none⟩) hk (.string s.top)
  have h3 := blk_far h2 (p := ⟨X, 3, none⟩) hk (.string s.first)
  have h4 := blk_far h3 (p := ⟨X, 4, none⟩) hk (.string s.middle)
  have h5 := blk_far h4 (p := ⟨X, 5, none⟩) hk (.string s.vert)
  have h6 := blk_far h5 (p := ⟨X, 6, none⟩) hk (.string s.bottom)
  have h7 := blk_far h6 (p := ⟨X, 7, none⟩) hk (.string s.newline)
  have h8 := blk_far h7 (p := ⟨X, 8, none⟩) hk (.string s.pre)
  exact h8
theorem setSty9_below {w0 w : World} {X B : Nat} (h : Below B w0 w) (hX : B ≤ X) (s : Sty) : Below B w0 (setSty9 w X s) := (((((((((h.setCell (p := ⟨X, 0, none⟩) hX _).setCell (p := ⟨X, 1, none⟩) hX _).setCell (p := ⟨X, 2, none⟩) hX _).setCell (p := ⟨X, 3, none⟩) hX _).setCell (p := ⟨X, 4, none⟩) hX _).setCell (p := ⟨X, 5, none⟩) hX _).setCell (p := ⟨X, 6, none⟩) hX _).setCell (p := ⟨X, 7, none⟩) hX _).setCell (p := ⟨X, 8, none⟩) hX _)

def impl_ListNamed.f (n : Int) : Option (Int × ByteArray × ByteArray × ByteArray × ByteArray × ByteArray × ByteArray × ByteArray × ByteArray) :=
  if n = 10 then some (0, ⟨#[42]⟩, ⟨#[42]⟩, ⟨#[42]⟩, ⟨#[42]⟩, ⟨#[32, 32]⟩, ⟨#[42]⟩, ⟨#[60, 98, 114, 47, 62]⟩, ⟨#[32, 32]⟩) else none
set_option maxHeartbeats 8000000 in
set_option maxRecDepth 100000 in
theorem styleDefault (w : World) : Calls Tryz.prog 21 #[] w fun e w' => ∃ st : Sty, e = .returned (.agg st.cells) ∧ Below w.heap.size w w' := by
  go_enter Tryz.func21, Tryz.ntmps21
  go_wp2
  go_returns
  exact ⟨⟨_, _, _, _, _, _, _, _, _, _⟩, rfl, below_alloc (Below.refl _ _) _⟩
set_option maxHeartbeats 8000000 in
set_option maxRecDepth 100000 in
theorem impl_ListNamed.calls (a0 : Int) (r1 : Int) (r2 : ByteArray) (r3 : ByteArray) (r4 : ByteArray) (r5 : ByteArray) (r6 : ByteArray) (r7 : ByteArray) (r8 : ByteArray) (r9 : ByteArray) (w : World) (h : impl_ListNamed.f a0 = some (r1, r2, r3, r4, r5, r6, r7, r8, r9)) :
    Calls Tryz.prog 11 #[.int .i64 a0] w fun e w' => e = .returned (.agg #[.int .i64 r1, .string r2, .string r3, .string r4, .string r5, .string r6, .string r7, .string r8, .string r9]) ∧ Below w.heap.size w w' := by
  unfold impl_ListNamed.f at h
  split at h
  case isFalse => cases h
  rename_i hn
  subst hn
  have h := Option.some.inj h
  simp only [Prod.mk.injEq] at h
  obtain ⟨rfl, rfl, rfl, rfl, rfl, rfl, rfl, rfl, rfl⟩ := h
  go_enter Tryz.func11, Tryz.ntmps11
  go_upto_region 22 with (go_at_call 21; refine (styleDefault _).mono ?_; rintro e w1 ⟨st, rfl, b1⟩; have B1 := Aside0.mk b1; clear b1; unfold Sty.cells)
  have NX := Aside0.mk (blk_new w1 (.cells st.cells 44))
  have MR := Aside0.mk (blk_alloc (blk_below (blk_new w (.cells #[.int .i64 0, .string ⟨#[]⟩, .string ⟨#[]⟩, .string ⟨#[]⟩, .string ⟨#[]⟩, .string ⟨#[]⟩, .string ⟨#[]⟩, .string ⟨#[]⟩, .string ⟨#[]⟩] 24)) B1.out) (.cells st.cells 44))
  have BW := Aside0.mk (below_alloc ((below_alloc (Below.refl w.heap.size w) (.cells #[.int .i64 0, .string ⟨#[]⟩, .string ⟨#[]⟩, .string ⟨#[]⟩, .string ⟨#[]⟩, .string ⟨#[]⟩, .string ⟨#[]⟩, .string ⟨#[]⟩, .string ⟨#[]⟩] 24)).trans (B1.out.mono (by simp))) (.cells st.cells 44))
  have hsz := B1.out.size
  rw [show (w.alloc (.cells #[.int .i64 0, .string ⟨#[]⟩, .string ⟨#[]⟩, .string ⟨#[]⟩, .string ⟨#[]⟩, .string ⟨#[]⟩, .string ⟨#[]⟩, .string ⟨#[]⟩, .string ⟨#[]⟩] 24)).heap.size = w.heap.size + 1 by simp] at hsz
  change Code.wp _ _ _ _ (w1.alloc (.cells st.cells 44))
  obtain ⟨X, hX⟩ : ∃ X, w1.heap.size = X := ⟨_, rfl⟩
  generalize (w1.alloc (.cells st.cells 44)) = w2 at NX MR BW ⊢
  obtain ⟨R, hR⟩ : ∃ R, w.heap.size = R := ⟨_, rfl⟩
  have HR := Aside0.mk hR
  rw [hX] at NX hsz
  rw [hR] at MR hsz
  rw [hX, hR]
  have hXR : X ≠ R := by omega
  have hRX : R ≠ X := by omega
  clear hX hR B1
  go_upto_region 23 with (go_at_call 31; refine (styleMd _).mono ?_; rintro e w3 ⟨rfl, b3⟩; unfold mdSty Sty.cells; have N3 := blk_below NX.out b3; have HN3 := Aside0.mk N3; have M3 := Aside0.mk (blk_below MR.out b3); have B3 := Aside0.mk b3; have c0 : w3.cell? ⟨X, 0, none⟩ = some (.int .i64 st.fmt) := (by rw [blk_cell N3]; rfl); have c1 : w3.cell? ⟨X, 1, none⟩ = some (.string st.single) := (by rw [blk_cell N3]; rfl); have c2 : w3.cell? ⟨X, 2, none⟩ = some (.string st.top) := (by rw [blk_cell N3]; rfl); have c3 : w3.cell? ⟨X, 3, none⟩ = some (.string st.first) := (by rw [blk_cell N3]; rfl); have c4 : w3.cell? ⟨X, 4, none⟩ = some (.string st.middle) := (by rw [blk_cell N3]; rfl); have c5 : w3.cell? ⟨X, 5, none⟩ = some (.string st.vert) := (by rw [blk_cell N3]; rfl); have c6 : w3.cell? ⟨X, 6, none⟩ = some (.string st.bottom) := (by rw [blk_cell N3]; rfl); have c7 : w3.cell? ⟨X, 7, none⟩ = some (.string st.newline) := (by rw [blk_cell N3]; rfl); have c8 : w3.cell? ⟨X, 8, none⟩ = some (.string st.pre) := (by rw [blk_cell N3]; rfl); have c9 : w3.cell? ⟨X, 9, none⟩ = some (.string st.name) := (by rw [blk_cell N3]; rfl); have f0 : w3.frozen? ⟨X, 0, none⟩ = false := blk_frozen N3 0; have f1 : w3.frozen? ⟨X, 1, none⟩ = false := blk_frozen N3 1; have f2 : w3.frozen? ⟨X, 2, none⟩ = false := blk_frozen N3 2; have f3 : w3.frozen? ⟨X, 3, none⟩ = false := blk_frozen N3 3; have f4 : w3.frozen? ⟨X, 4, none⟩ = false := blk_frozen N3 4; have f5 : w3.frozen? ⟨X, 5, none⟩ = false := blk_frozen N3 5; have f6 : w3.frozen? ⟨X, 6, none⟩ = false := blk_frozen N3 6; have f7 : w3.frozen? ⟨X, 7, none⟩ = false := blk_frozen N3 7; have f8 : w3.frozen? ⟨X, 8, none⟩ = false := blk_frozen N3 8; have f9 : w3.frozen? ⟨X, 9, none⟩ = false := blk_frozen N3 9; clear b3 N3)
  have N4 := Aside0.mk (setSty_blk HN3.out mdSty)
  have M4 := Aside0.mk (setSty_far M3.out hRX mdSty)
  have hXw : w.heap.size ≤ X := by have h := HR.out; omega
  have hRw : w.heap.size ≤ R := by have h := HR.out; omega
  have BB : Below w.heap.size w w3 := BW.out.trans (B3.out.mono BW.out.size)
  have B4 := Aside0.mk (setSty_below BB hXw mdSty)
  clear BB
  change Code.wp _ _ _ _ (setSty w3 X mdSty)
  generalize setSty w3 X mdSty = w4 at N4 M4 B4 ⊢
  clear c0 f0 c1 f1 c2 f2 c3 f3 c4 f4 c5 f5 c6 f6 c7 f7 c8 f8 c9 f9 HN3 M3 B3 BW NX MR
  have x0 : w4.cell? ⟨X, 0, none⟩ = some (.int .i64 mdSty.fmt) := (by rw [blk_cell N4.out]; rfl); have x1 : w4.cell? ⟨X, 1, none⟩ = some (.string mdSty.single) := (by rw [blk_cell N4.out]; rfl); have x2 : w4.cell? ⟨X, 2, none⟩ = some (.string mdSty.top) := (by rw [blk_cell N4.out]; rfl); have x3 : w4.cell? ⟨X, 3, none⟩ = some (.string mdSty.first) := (by rw [blk_cell N4.out]; rfl); have x4 : w4.cell? ⟨X, 4, none⟩ = some (.string mdSty.middle) := (by rw [blk_cell N4.out]; rfl); have x5 : w4.cell? ⟨X, 5, none⟩ = some (.string mdSty.vert) := (by rw [blk_cell N4.out]; rfl); have x6 : w4.cell? ⟨X, 6, none⟩ = some (.string mdSty.bottom) := (by rw [blk_cell N4.out]; rfl); have x7 : w4.cell? ⟨X, 7, none⟩ = some (.string mdSty.newline) := (by rw [blk_cell N4.out]; rfl); have x8 : w4.cell? ⟨X, 8, none⟩ = some (.string mdSty.pre) := (by rw [blk_cell N4.out]; rfl)
  have r0 : w4.cell? ⟨R, 0, none⟩ = some (.int .i64 0) := (by rw [blk_cell M4.out]; rfl); have g0 : w4.frozen? ⟨R, 0, none⟩ = false := blk_frozen M4.out 0; have r1 : w4.cell? ⟨R, 1, none⟩ = some (.string ⟨#[]⟩) := (by rw [blk_cell M4.out]; rfl); have g1 : w4.frozen? ⟨R, 1, none⟩ = false := blk_frozen M4.out 1; have r2 : w4.cell? ⟨R, 2, none⟩ = some (.string ⟨#[]⟩) := (by rw [blk_cell M4.out]; rfl); have g2 : w4.frozen? ⟨R, 2, none⟩ = false := blk_frozen M4.out 2; have r3 : w4.cell? ⟨R, 3, none⟩ = some (.string ⟨#[]⟩) := (by rw [blk_cell M4.out]; rfl); have g3 : w4.frozen? ⟨R, 3, none⟩ = false := blk_frozen M4.out 3; have r4 : w4.cell? ⟨R, 4, none⟩ = some (.string ⟨#[]⟩) := (by rw [blk_cell M4.out]; rfl); have g4 : w4.frozen? ⟨R, 4, none⟩ = false := blk_frozen M4.out 4; have r5 : w4.cell? ⟨R, 5, none⟩ = some (.string ⟨#[]⟩) := (by rw [blk_cell M4.out]; rfl); have g5 : w4.frozen? ⟨R, 5, none⟩ = false := blk_frozen M4.out 5; have r6 : w4.cell? ⟨R, 6, none⟩ = some (.string ⟨#[]⟩) := (by rw [blk_cell M4.out]; rfl); have g6 : w4.frozen? ⟨R, 6, none⟩ = false := blk_frozen M4.out 6; have r7 : w4.cell? ⟨R, 7, none⟩ = some (.string ⟨#[]⟩) := (by rw [blk_cell M4.out]; rfl); have g7 : w4.frozen? ⟨R, 7, none⟩ = false := blk_frozen M4.out 7; have r8 : w4.cell? ⟨R, 8, none⟩ = some (.string ⟨#[]⟩) := (by rw [blk_cell M4.out]; rfl); have g8 : w4.frozen? ⟨R, 8, none⟩ = false := blk_frozen M4.out 8
  go_cut [] (fun wc => Aside0 (wc.heap[R]? = some (.cells #[.int .i64 mdSty.fmt, .string mdSty.single, .string mdSty.top, .string mdSty.first, .string mdSty.middle, .string mdSty.vert, .string mdSty.bottom, .string mdSty.newline, .string mdSty.pre] 24 (0, 0))) ∧ Aside0 (Below w.heap.size w wc))
  case first =>
    go_wp2_with fail
    go_meet
    case rel => exact ⟨⟨setSty9_blk M4.out mdSty⟩, ⟨setSty9_below B4.out hRw mdSty⟩⟩
  case rest =>
    obtain ⟨hR5, hB5⟩ := hcut
    clear x0 x1 x2 x3 x4 x5 x6 x7 x8 r0 r1 r2 r3 r4 r5 r6 r7 r8 g0 g1 g2 g3 g4 g5 g6 g7 g8
    have y0 : wc.cell? ⟨R, 0, none⟩ = some (.int .i64 mdSty.fmt) := (by rw [blk_cell hR5.out]; rfl); have y1 : wc.cell? ⟨R, 1, none⟩ = some (.string mdSty.single) := (by rw [blk_cell hR5.out]; rfl); have y2 : wc.cell? ⟨R, 2, none⟩ = some (.string mdSty.top) := (by rw [blk_cell hR5.out]; rfl); have y3 : wc.cell? ⟨R, 3, none⟩ = some (.string mdSty.first) := (by rw [blk_cell hR5.out]; rfl); have y4 : wc.cell? ⟨R, 4, none⟩ = some (.string mdSty.middle) := (by rw [blk_cell hR5.out]; rfl); have y5 : wc.cell? ⟨R, 5, none⟩ = some (.string mdSty.vert) := (by rw [blk_cell hR5.out]; rfl); have y6 : wc.cell? ⟨R, 6, none⟩ = some (.string mdSty.bottom) := (by rw [blk_cell hR5.out]; rfl); have y7 : wc.cell? ⟨R, 7, none⟩ = some (.string mdSty.newline) := (by rw [blk_cell hR5.out]; rfl); have y8 : wc.cell? ⟨R, 8, none⟩ = some (.string mdSty.pre) := (by rw [blk_cell hR5.out]; rfl)
    go_wp2
    exact bodyPost_ret (v := .agg #[.int .i64 mdSty.fmt, .string mdSty.single, .string mdSty.top, .string mdSty.first, .string mdSty.middle, .string mdSty.vert, .string mdSty.bottom, .string mdSty.newline, .string mdSty.pre]) (by simp [results, Tryz.results11, go_sem, y0, y1, y2, y3, y4, y5, y6, y7, y8]) rfl ⟨rfl, hB5.out⟩
end Go.Proofs.YtmakcmggicedfaaGreatDoor.Hand
