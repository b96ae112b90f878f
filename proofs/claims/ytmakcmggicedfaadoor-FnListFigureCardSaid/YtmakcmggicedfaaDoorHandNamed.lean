/- The styles by their numbers. -/
import Derived.Test.YtmakcmggicedfaaDoorHandListQ
import Derived.Handy
namespace Go.Proofs.YtmakcmggicedfaaDoor.Hand
open Go.RowKit Go.Proofs.YtmakcmggicedfaaDoorW.PrintWords Go.Proofs.YtmakcmggicedfaaDoor.Base
set_option linter.unusedVariables false
set_option linter.unusedSimpArgs false

/-- A style's first 10 fields, stored. -/
def setSty (w : World) (X : Nat) (s : Sty) : World := (((((((((w.setCell ⟨X, 0, none⟩ (.int .i64 s.fmt)).setCell ⟨X, 1, none⟩ (.string s.single)).setCell ⟨X, 2, none⟩ (.string s.top)).setCell ⟨X, 3, none⟩ (.string s.first)).setCell ⟨X, 4, none⟩ (.string s.middle)).setCell ⟨X, 5, none⟩ (.string s.vert)).setCell ⟨X, 6, none⟩ (.string s.bottom)).setCell ⟨X, 7, none⟩ (.string s.newline)).setCell ⟨X, 8, none⟩ (.string s.pre)).setCell ⟨X, 9, none⟩ (.string s.name)
theorem setSty_blk {w : World} {X : Nat} {a0 a1 a2 a3 a4 a5 a6 a7 a8 a9 : Value} {T : TypeId} (h : w.heap[X]? = some (.cells #[a0, a1, a2, a3, a4, a5, a6, a7, a8, a9] T (0, 0))) (s : Sty) : (setSty w X s).heap[X]? = some (.cells #[.int .i64 s.fmt, .string s.single, .string s.top, .string s.first, .string s.middle, .string s.vert, .string s.bottom, .string s.newline, .string s.pre, .string s.name] T (0, 0)) := by
  have h0 := blk_set h 0 (.int .i64 s.fmt)
  simp only [List.setIfInBounds_toArray, List.set_cons_zero, List.set_cons_succ] at h0
  have h1 := blk_set h0 1 (.string s.single)
  simp only [List.setIfInBounds_toArray, List.set_cons_zero, List.set_cons_succ] at h1
  have h2 := blk_set h1 2 (.string s.top)
  simp only [List.setIfInBounds_toArray, List.set_cons_zero, List.set_cons_succ] at h2
  have h3 := blk_set h2 3 (.string s.first)
  simp only [List.setIfInBounds_toArray, List.set_cons_zero, List.set_cons_succ] at h3
  have h4 := blk_set h3 4 (.string s.middle)
  simp only [List.setIfInBounds_toArray, List.set_cons_zero, List.set_cons_succ] at h4
  have h5 := blk_set h4 5 (.string s.vert)
  simp only [List.setIfInBounds_toArray, List.set_cons_zero, List.set_cons_succ] at h5
  have h6 := blk_set h5 6 (.string s.bottom)
  simp only [List.setIfInBounds_toArray, List.set_cons_zero, List.set_cons_succ] at h6
  have h7 := blk_set h6 7 (.string s.newline)
  simp only [List.setIfInBounds_toArray, List.set_cons_zero, List.set_cons_succ] at h7
  have h8 := blk_set h7 8 (.string s.pre)
  simp only [List.setIfInBounds_toArray, List.set_cons_zero, List.set_cons_succ] at h8
  have h9 := blk_set h8 9 (.string s.name)
  simp only [List.setIfInBounds_toArray, List.set_cons_zero, List.set_cons_succ] at h9
  exact h9
theorem setSty_far {w : World} {X k : Nat} {cs : Array Value} {T : TypeId} (h : w.heap[k]? = some (.cells cs T (0, 0))) (hk : k ≠ X) (s : Sty) : (setSty w X s).heap[k]? = some (.cells cs T (0, 0)) := by
  have h0 := blk_far h (p := ⟨X, 0, none⟩) hk (.int .i64 s.fmt)
  have h1 := blk_far h0 (p := ⟨X, 1, none⟩) hk (.string s.single)
  have h2 := blk_far h1 (p := ⟨X, 2, none⟩) hk (.string s.top)
  have h3 := blk_far h2 (p := ⟨X, 3, none⟩) hk (.string s.first)
  have h4 := blk_far h3 (p := ⟨X, 4, none⟩) hk (.string s.middle)
  have h5 := blk_far h4 (p := ⟨X, 5, none⟩) hk (.string s.vert)
  have h6 := blk_far h5 (p := ⟨X, 6, none⟩) hk (.string s.bottom)
  have h7 := blk_far h6 (p := ⟨X, 7, none⟩) hk (.string s.newline)
  have h8 := blk_far h7 (p := ⟨X, 8, none⟩) hk (.string s.pre)
  have h9 := blk_far h8 (p := ⟨X, 9, none⟩) hk (.string s.name)
  exact h9
theorem setSty_below {w0 w : World} {X B : Nat} (h : Below B w0 w) (hX : B ≤ X) (s : Sty) : Below B w0 (setSty w X s) := ((((((((((h.setCell (p := ⟨X, 0, none⟩) hX _).setCell (p := ⟨X, 1, none⟩) hX _).setCell (p := ⟨X, 2, none⟩) hX _).setCell (p := ⟨X, 3, none⟩) hX _).setCell (p := ⟨X, 4, none⟩) hX _).setCell (p := ⟨X, 5, none⟩) hX _).setCell (p := ⟨X, 6, none⟩) hX _).setCell (p := ⟨X, 7, none⟩) hX _).setCell (p := ⟨X, 8, none⟩) hX _).setCell (p := ⟨X, 9, none⟩) hX _)
/-- A style's first 9 fields, stored. -/
def setSty9 (w : World) (X : Nat) (s : Sty) : World := ((((((((w.setCell ⟨X, 0, none⟩ (.int .i64 s.fmt)).setCell ⟨X, 1, none⟩ (.string s.single)).setCell ⟨X, 2, none⟩ (.string s.top)).setCell ⟨X, 3, none⟩ (.string s.first)).setCell ⟨X, 4, none⟩ (.string s.middle)).setCell ⟨X, 5, none⟩ (.string s.vert)).setCell ⟨X, 6, none⟩ (.string s.bottom)).setCell ⟨X, 7, none⟩ (.string s.newline)).setCell ⟨X, 8, none⟩ (.string s.pre)
theorem setSty9_blk {w : World} {X : Nat} {a0 a1 a2 a3 a4 a5 a6 a7 a8 : Value} {T : TypeId} (h : w.heap[X]? = some (.cells #[a0, a1, a2, a3, a4, a5, a6, a7, a8] T (0, 0))) (s : Sty) : (setSty9 w X s).heap[X]? = some (.cells #[.int .i64 s.fmt, .string s.single, .string s.top, .string s.first, .string s.middle, .string s.vert, .string s.bottom, .string s.newline, .string s.pre] T (0, 0)) := by
  have h0 := blk_set h 0 (.int .i64 s.fmt)
  simp only [List.setIfInBounds_toArray, List.set_cons_zero, List.set_cons_succ] at h0
  have h1 := blk_set h0 1 (.string s.single)
  simp only [List.setIfInBounds_toArray, List.set_cons_zero, List.set_cons_succ] at h1
  have h2 := blk_set h1 2 (.string s.top)
  simp only [List.setIfInBounds_toArray, List.set_cons_zero, List.set_cons_succ] at h2
  have h3 := blk_set h2 3 (.string s.first)
  simp only [List.setIfInBounds_toArray, List.set_cons_zero, List.set_cons_succ] at h3
  have h4 := blk_set h3 4 (.string s.middle)
  simp only [List.setIfInBounds_toArray, List.set_cons_zero, List.set_cons_succ] at h4
  have h5 := blk_set h4 5 (.string s.vert)
  simp only [List.setIfInBounds_toArray, List.set_cons_zero, List.set_cons_succ] at h5
  have h6 := blk_set h5 6 (.string s.bottom)
  simp only [List.setIfInBounds_toArray, List.set_cons_zero, List.set_cons_succ] at h6
  have h7 := blk_set h6 7 (.string s.newline)
  simp only [List.setIfInBounds_toArray, List.set_cons_zero, List.set_cons_succ] at h7
  have h8 := blk_set h7 8 (.string s.pre)
  simp only [List.setIfInBounds_toArray, List.set_cons_zero, List.set_cons_succ] at h8
  exact h8
theorem setSty9_far {w : World} {X k : Nat} {cs : Array Value} {T : TypeId} (h : w.heap[k]? = some (.cells cs T (0, 0))) (hk : k ≠ X) (s : Sty) : (setSty9 w X s).heap[k]? = some (.cells cs T (0, 0)) := by
  have h0 := blk_far h (p := ⟨X, 0, none⟩) hk (.int .i64 s.fmt)
  have h1 := blk_far h0 (p := ⟨X, 1, none⟩) hk (.string s.single)
  have h2 := blk_far h1 (p := ⟨X, 2, none⟩) hk (.string s.top)
  have h3 := blk_far h2 (p := ⟨X, 3, none⟩) hk (.string s.first)
  have h4 := blk_far h3 (p := ⟨X, 4, none⟩) hk (.string s.middle)
  have h5 := blk_far h4 (p := ⟨X, 5, none⟩) hk (.string s.vert)
  have h6 := blk_far h5 (p := ⟨X, 6, none⟩) hk (.string s.bottom)
  have h7 := blk_far h6 (p := ⟨X, 7, none⟩) hk (.string s.newline)
  have h8 := blk_far h7 (p := ⟨X, 8, none⟩) hk (.string s.pre)
  exact h8
theorem setSty9_below {w0 w : World} {X B : Nat} (h : Below B w0 w) (hX : B ≤ X) (s : Sty) : Below B w0 (setSty9 w X s) := (((((((((h.setCell (p := ⟨X, 0, none⟩) hX _).setCell (p := ⟨X, 1, none⟩) hX _).setCell (p := ⟨X, 2, none⟩) hX _).setCell (p := ⟨X, 3, none⟩) hX _).setCell (p := ⟨X, 4, none⟩) hX _).setCell (p := ⟨X, 5, none⟩) hX _).setCell (p := ⟨X, 6, none⟩) hX _).setCell (p := ⟨X, 7, none⟩) hX _).setCell (p := ⟨X, 8, none⟩) hX _)

def sty0 : Sty := ⟨0, ⟨#[42]⟩, ⟨#[42]⟩, ⟨#[42]⟩, ⟨#[42]⟩, ⟨#[32, 32]⟩, ⟨#[42]⟩, ⟨#[10]⟩, ⟨#[]⟩, ⟨#[83, 116, 121, 108, 101, 68, 101, 102, 97, 117, 108, 116]⟩⟩
set_option maxHeartbeats 2000000 in
set_option maxRecDepth 100000 in
theorem style0 (w : World) : Calls Tryd.prog 29 #[] w fun e w' => e = .returned (.agg sty0.cells) ∧ Below w.heap.size w w' := by
  go_enter Tryd.func29, Tryd.ntmps29
  go_wp2
  go_returns
  exact ⟨rfl, below_alloc (Below.refl _ _) _⟩
def sty1 : Sty := ⟨0, ⟨#[226, 151, 143]⟩, ⟨#[226, 151, 143]⟩, ⟨#[226, 151, 143]⟩, ⟨#[226, 151, 143]⟩, ⟨#[32, 32]⟩, ⟨#[226, 151, 143]⟩, ⟨#[10]⟩, ⟨#[]⟩, ⟨#[83, 116, 121, 108, 101, 66, 117, 108, 108, 101, 116, 67, 105, 114, 99, 108, 101]⟩⟩
set_option maxHeartbeats 2000000 in
set_option maxRecDepth 100000 in
theorem style1 (w : World) : Calls Tryd.prog 30 #[] w fun e w' => e = .returned (.agg sty1.cells) ∧ Below w.heap.size w w' := by
  go_enter Tryd.func30, Tryd.ntmps30
  go_wp2
  go_returns
  exact ⟨rfl, below_alloc (Below.refl _ _) _⟩
def sty2 : Sty := ⟨0, ⟨#[226, 156, 189]⟩, ⟨#[226, 156, 189]⟩, ⟨#[226, 156, 189]⟩, ⟨#[226, 156, 189]⟩, ⟨#[32, 32]⟩, ⟨#[226, 156, 189]⟩, ⟨#[10]⟩, ⟨#[]⟩, ⟨#[83, 116, 121, 108, 101, 66, 117, 108, 108, 101, 116, 70, 108, 111, 119, 101, 114]⟩⟩
set_option maxHeartbeats 2000000 in
set_option maxRecDepth 100000 in
theorem style2 (w : World) : Calls Tryd.prog 31 #[] w fun e w' => e = .returned (.agg sty2.cells) ∧ Below w.heap.size w w' := by
  go_enter Tryd.func31, Tryd.ntmps31
  go_wp2
  go_returns
  exact ⟨rfl, below_alloc (Below.refl _ _) _⟩
def sty3 : Sty := ⟨0, ⟨#[226, 150, 160]⟩, ⟨#[226, 150, 160]⟩, ⟨#[226, 150, 160]⟩, ⟨#[226, 150, 160]⟩, ⟨#[32, 32]⟩, ⟨#[226, 150, 160]⟩, ⟨#[10]⟩, ⟨#[]⟩, ⟨#[83, 116, 121, 108, 101, 66, 117, 108, 108, 101, 116, 83, 113, 117, 97, 114, 101]⟩⟩
set_option maxHeartbeats 2000000 in
set_option maxRecDepth 100000 in
theorem style3 (w : World) : Calls Tryd.prog 32 #[] w fun e w' => e = .returned (.agg sty3.cells) ∧ Below w.heap.size w w' := by
  go_enter Tryd.func32, Tryd.ntmps32
  go_wp2
  go_returns
  exact ⟨rfl, below_alloc (Below.refl _ _) _⟩
def sty4 : Sty := ⟨0, ⟨#[226, 152, 133]⟩, ⟨#[226, 152, 133]⟩, ⟨#[226, 152, 133]⟩, ⟨#[226, 152, 133]⟩, ⟨#[32, 32]⟩, ⟨#[226, 152, 133]⟩, ⟨#[10]⟩, ⟨#[]⟩, ⟨#[83, 116, 121, 108, 101, 66, 117, 108, 108, 101, 116, 83, 116, 97, 114]⟩⟩
set_option maxHeartbeats 2000000 in
set_option maxRecDepth 100000 in
theorem style4 (w : World) : Calls Tryd.prog 33 #[] w fun e w' => e = .returned (.agg sty4.cells) ∧ Below w.heap.size w w' := by
  go_enter Tryd.func33, Tryd.ntmps33
  go_wp2
  go_returns
  exact ⟨rfl, below_alloc (Below.refl _ _) _⟩
def sty5 : Sty := ⟨0, ⟨#[226, 150, 182]⟩, ⟨#[226, 150, 182]⟩, ⟨#[226, 150, 182]⟩, ⟨#[226, 150, 182]⟩, ⟨#[32, 32]⟩, ⟨#[226, 150, 182]⟩, ⟨#[10]⟩, ⟨#[]⟩, ⟨#[83, 116, 121, 108, 101, 66, 117, 108, 108, 101, 116, 84, 114, 105, 97, 110, 103, 108, 101]⟩⟩
set_option maxHeartbeats 2000000 in
set_option maxRecDepth 100000 in
theorem style5 (w : World) : Calls Tryd.prog 34 #[] w fun e w' => e = .returned (.agg sty5.cells) ∧ Below w.heap.size w w' := by
  go_enter Tryd.func34, Tryd.ntmps34
  go_wp2
  go_returns
  exact ⟨rfl, below_alloc (Below.refl _ _) _⟩
def sty6 : Sty := ⟨0, ⟨#[226, 148, 129, 226, 148, 129]⟩, ⟨#[226, 148, 143, 226, 148, 129]⟩, ⟨#[226, 148, 163, 226, 148, 129]⟩, ⟨#[226, 148, 163, 226, 148, 129]⟩, ⟨#[226, 148, 131, 32, 32]⟩, ⟨#[226, 148, 151, 226, 148, 129]⟩, ⟨#[10]⟩, ⟨#[]⟩, ⟨#[83, 116, 121, 108, 101, 67, 111, 110, 110, 101, 99, 116, 101, 100, 66, 111, 108, 100]⟩⟩
set_option maxHeartbeats 2000000 in
set_option maxRecDepth 100000 in
theorem style6 (w : World) : Calls Tryd.prog 35 #[] w fun e w' => e = .returned (.agg sty6.cells) ∧ Below w.heap.size w w' := by
  go_enter Tryd.func35, Tryd.ntmps35
  go_wp2
  go_returns
  exact ⟨rfl, below_alloc (Below.refl _ _) _⟩
def sty7 : Sty := ⟨0, ⟨#[226, 149, 144, 226, 149, 144]⟩, ⟨#[226, 149, 148, 226, 149, 144]⟩, ⟨#[226, 149, 160, 226, 149, 144]⟩, ⟨#[226, 149, 160, 226, 149, 144]⟩, ⟨#[226, 149, 145, 32, 32]⟩, ⟨#[226, 149, 154, 226, 149, 144]⟩, ⟨#[10]⟩, ⟨#[]⟩, ⟨#[83, 116, 121, 108, 101, 67, 111, 110, 110, 101, 99, 116, 101, 100, 68, 111, 117, 98, 108, 101]⟩⟩
set_option maxHeartbeats 2000000 in
set_option maxRecDepth 100000 in
theorem style7 (w : World) : Calls Tryd.prog 36 #[] w fun e w' => e = .returned (.agg sty7.cells) ∧ Below w.heap.size w w' := by
  go_enter Tryd.func36, Tryd.ntmps36
  go_wp2
  go_returns
  exact ⟨rfl, below_alloc (Below.refl _ _) _⟩
def sty8 : Sty := ⟨0, ⟨#[226, 148, 128, 226, 148, 128]⟩, ⟨#[226, 148, 140, 226, 148, 128]⟩, ⟨#[226, 148, 156, 226, 148, 128]⟩, ⟨#[226, 148, 156, 226, 148, 128]⟩, ⟨#[226, 148, 130, 32, 32]⟩, ⟨#[226, 148, 148, 226, 148, 128]⟩, ⟨#[10]⟩, ⟨#[]⟩, ⟨#[83, 116, 121, 108, 101, 67, 111, 110, 110, 101, 99, 116, 101, 100, 76, 105, 103, 104, 116]⟩⟩
set_option maxHeartbeats 2000000 in
set_option maxRecDepth 100000 in
theorem style8 (w : World) : Calls Tryd.prog 37 #[] w fun e w' => e = .returned (.agg sty8.cells) ∧ Below w.heap.size w w' := by
  go_enter Tryd.func37, Tryd.ntmps37
  go_wp2
  go_returns
  exact ⟨rfl, below_alloc (Below.refl _ _) _⟩
def sty9 : Sty := ⟨0, ⟨#[226, 148, 128, 226, 148, 128]⟩, ⟨#[226, 149, 173, 226, 148, 128]⟩, ⟨#[226, 148, 156, 226, 148, 128]⟩, ⟨#[226, 148, 156, 226, 148, 128]⟩, ⟨#[226, 148, 130, 32, 32]⟩, ⟨#[226, 149, 176, 226, 148, 128]⟩, ⟨#[10]⟩, ⟨#[]⟩, ⟨#[83, 116, 121, 108, 101, 67, 111, 110, 110, 101, 99, 116, 101, 100, 82, 111, 117, 110, 100, 101, 100]⟩⟩
set_option maxHeartbeats 2000000 in
set_option maxRecDepth 100000 in
theorem style9 (w : World) : Calls Tryd.prog 38 #[] w fun e w' => e = .returned (.agg sty9.cells) ∧ Below w.heap.size w w' := by
  go_enter Tryd.func38, Tryd.ntmps38
  go_wp2
  go_returns
  exact ⟨rfl, below_alloc (Below.refl _ _) _⟩
def sty10 : Sty := ⟨0, ⟨#[42]⟩, ⟨#[42]⟩, ⟨#[42]⟩, ⟨#[42]⟩, ⟨#[32, 32]⟩, ⟨#[42]⟩, ⟨#[60, 98, 114, 47, 62]⟩, ⟨#[32, 32]⟩, ⟨#[83, 116, 121, 108, 101, 77, 97, 114, 107, 100, 111, 119, 110]⟩⟩
set_option maxHeartbeats 2000000 in
set_option maxRecDepth 100000 in
theorem style10 (w : World) : Calls Tryd.prog 39 #[] w fun e w' => e = .returned (.agg sty10.cells) ∧ Below w.heap.size w w' := by
  go_enter Tryd.func39, Tryd.ntmps39
  go_wp2
  go_returns
  exact ⟨rfl, below_alloc (Below.refl _ _) _⟩

set_option maxHeartbeats 8000000 in
set_option maxRecDepth 100000 in
theorem named0 (w : World) : Calls Tryd.prog 19 #[.int .i64 0] w fun e w' => e = .returned (.agg #[.int .i64 sty0.fmt, .string sty0.single, .string sty0.top, .string sty0.first, .string sty0.middle, .string sty0.vert, .string sty0.bottom, .string sty0.newline, .string sty0.pre]) ∧ Below w.heap.size w w' := by
  go_enter Tryd.func19, Tryd.ntmps19
  go_upto_region 23 with (go_at_call 29; refine (style0 _).mono ?_; rintro e w1 ⟨rfl, b1⟩; have B1 := Aside0.mk b1; clear b1; unfold sty0 Sty.cells)
  have NX := Aside0.mk (blk_new w1 (.cells sty0.cells 54))
  have MR := Aside0.mk (blk_alloc (blk_below (blk_new w (.cells #[.int .i64 0, .string ⟨#[]⟩, .string ⟨#[]⟩, .string ⟨#[]⟩, .string ⟨#[]⟩, .string ⟨#[]⟩, .string ⟨#[]⟩, .string ⟨#[]⟩, .string ⟨#[]⟩] 24)) B1.out) (.cells sty0.cells 54))
  have BW := Aside0.mk (below_alloc ((below_alloc (Below.refl w.heap.size w) (.cells #[.int .i64 0, .string ⟨#[]⟩, .string ⟨#[]⟩, .string ⟨#[]⟩, .string ⟨#[]⟩, .string ⟨#[]⟩, .string ⟨#[]⟩, .string ⟨#[]⟩, .string ⟨#[]⟩] 24)).trans (B1.out.mono (by simp))) (.cells sty0.cells 54))
  have hsz := B1.out.size
  rw [show (w.alloc (.cells #[.int .i64 0, .string ⟨#[]⟩, .string ⟨#[]⟩, .string ⟨#[]⟩, .string ⟨#[]⟩, .string ⟨#[]⟩, .string ⟨#[]⟩, .string ⟨#[]⟩, .string ⟨#[]⟩] 24)).heap.size = w.heap.size + 1 by simp] at hsz
  change Code.wp _ _ _ _ (w1.alloc (.cells sty0.cells 54))
  obtain ⟨X, hX⟩ : ∃ X, w1.heap.size = X := ⟨_, rfl⟩
  generalize (w1.alloc (.cells sty0.cells 54)) = w2 at NX MR BW ⊢
  obtain ⟨R, hR⟩ : ∃ R, w.heap.size = R := ⟨_, rfl⟩
  have HR := Aside0.mk hR
  rw [hX] at NX hsz
  rw [hR] at MR hsz
  rw [hX, hR]
  have hXR : X ≠ R := by omega
  have hRX : R ≠ X := by omega
  clear hX hR B1
  have N4 := NX
  have M4 := MR
  have B4 := BW
  have hRw : w.heap.size ≤ R := by have h := HR.out; omega
  generalize w2 = w4 at N4 M4 B4 ⊢
  have x0 : w4.cell? ⟨X, 0, none⟩ = some (.int .i64 sty0.fmt) := (by rw [blk_cell N4.out]; rfl); have x1 : w4.cell? ⟨X, 1, none⟩ = some (.string sty0.single) := (by rw [blk_cell N4.out]; rfl); have x2 : w4.cell? ⟨X, 2, none⟩ = some (.string sty0.top) := (by rw [blk_cell N4.out]; rfl); have x3 : w4.cell? ⟨X, 3, none⟩ = some (.string sty0.first) := (by rw [blk_cell N4.out]; rfl); have x4 : w4.cell? ⟨X, 4, none⟩ = some (.string sty0.middle) := (by rw [blk_cell N4.out]; rfl); have x5 : w4.cell? ⟨X, 5, none⟩ = some (.string sty0.vert) := (by rw [blk_cell N4.out]; rfl); have x6 : w4.cell? ⟨X, 6, none⟩ = some (.string sty0.bottom) := (by rw [blk_cell N4.out]; rfl); have x7 : w4.cell? ⟨X, 7, none⟩ = some (.string sty0.newline) := (by rw [blk_cell N4.out]; rfl); have x8 : w4.cell? ⟨X, 8, none⟩ = some (.string sty0.pre) := (by rw [blk_cell N4.out]; rfl)
  have r0 : w4.cell? ⟨R, 0, none⟩ = some (.int .i64 0) := (by rw [blk_cell M4.out]; rfl); have g0 : w4.frozen? ⟨R, 0, none⟩ = false := blk_frozen M4.out 0; have r1 : w4.cell? ⟨R, 1, none⟩ = some (.string ⟨#[]⟩) := (by rw [blk_cell M4.out]; rfl); have g1 : w4.frozen? ⟨R, 1, none⟩ = false := blk_frozen M4.out 1; have r2 : w4.cell? ⟨R, 2, none⟩ = some (.string ⟨#[]⟩) := (by rw [blk_cell M4.out]; rfl); have g2 : w4.frozen? ⟨R, 2, none⟩ = false := blk_frozen M4.out 2; have r3 : w4.cell? ⟨R, 3, none⟩ = some (.string ⟨#[]⟩) := (by rw [blk_cell M4.out]; rfl); have g3 : w4.frozen? ⟨R, 3, none⟩ = false := blk_frozen M4.out 3; have r4 : w4.cell? ⟨R, 4, none⟩ = some (.string ⟨#[]⟩) := (by rw [blk_cell M4.out]; rfl); have g4 : w4.frozen? ⟨R, 4, none⟩ = false := blk_frozen M4.out 4; have r5 : w4.cell? ⟨R, 5, none⟩ = some (.string ⟨#[]⟩) := (by rw [blk_cell M4.out]; rfl); have g5 : w4.frozen? ⟨R, 5, none⟩ = false := blk_frozen M4.out 5; have r6 : w4.cell? ⟨R, 6, none⟩ = some (.string ⟨#[]⟩) := (by rw [blk_cell M4.out]; rfl); have g6 : w4.frozen? ⟨R, 6, none⟩ = false := blk_frozen M4.out 6; have r7 : w4.cell? ⟨R, 7, none⟩ = some (.string ⟨#[]⟩) := (by rw [blk_cell M4.out]; rfl); have g7 : w4.frozen? ⟨R, 7, none⟩ = false := blk_frozen M4.out 7; have r8 : w4.cell? ⟨R, 8, none⟩ = some (.string ⟨#[]⟩) := (by rw [blk_cell M4.out]; rfl); have g8 : w4.frozen? ⟨R, 8, none⟩ = false := blk_frozen M4.out 8
  go_cut [] (fun wc => Aside0 (wc.heap[R]? = some (.cells #[.int .i64 sty0.fmt, .string sty0.single, .string sty0.top, .string sty0.first, .string sty0.middle, .string sty0.vert, .string sty0.bottom, .string sty0.newline, .string sty0.pre] 24 (0, 0))) ∧ Aside0 (Below w.heap.size w wc))
  case first =>
    go_wp2_with fail
    go_meet
    case rel => exact ⟨⟨setSty9_blk M4.out sty0⟩, ⟨setSty9_below B4.out hRw sty0⟩⟩
  case rest =>
    obtain ⟨hR5, hB5⟩ := hcut
    clear x0 x1 x2 x3 x4 x5 x6 x7 x8 r0 r1 r2 r3 r4 r5 r6 r7 r8 g0 g1 g2 g3 g4 g5 g6 g7 g8
    have y0 : wc.cell? ⟨R, 0, none⟩ = some (.int .i64 sty0.fmt) := (by rw [blk_cell hR5.out]; rfl); have y1 : wc.cell? ⟨R, 1, none⟩ = some (.string sty0.single) := (by rw [blk_cell hR5.out]; rfl); have y2 : wc.cell? ⟨R, 2, none⟩ = some (.string sty0.top) := (by rw [blk_cell hR5.out]; rfl); have y3 : wc.cell? ⟨R, 3, none⟩ = some (.string sty0.first) := (by rw [blk_cell hR5.out]; rfl); have y4 : wc.cell? ⟨R, 4, none⟩ = some (.string sty0.middle) := (by rw [blk_cell hR5.out]; rfl); have y5 : wc.cell? ⟨R, 5, none⟩ = some (.string sty0.vert) := (by rw [blk_cell hR5.out]; rfl); have y6 : wc.cell? ⟨R, 6, none⟩ = some (.string sty0.bottom) := (by rw [blk_cell hR5.out]; rfl); have y7 : wc.cell? ⟨R, 7, none⟩ = some (.string sty0.newline) := (by rw [blk_cell hR5.out]; rfl); have y8 : wc.cell? ⟨R, 8, none⟩ = some (.string sty0.pre) := (by rw [blk_cell hR5.out]; rfl)
    go_wp2
    exact bodyPost_ret (v := .agg #[.int .i64 sty0.fmt, .string sty0.single, .string sty0.top, .string sty0.first, .string sty0.middle, .string sty0.vert, .string sty0.bottom, .string sty0.newline, .string sty0.pre]) (by simp [results, Tryd.results19, go_sem, y0, y1, y2, y3, y4, y5, y6, y7, y8]) rfl ⟨rfl, hB5.out⟩

set_option maxHeartbeats 8000000 in
set_option maxRecDepth 100000 in
theorem named1 (w : World) : Calls Tryd.prog 19 #[.int .i64 1] w fun e w' => e = .returned (.agg #[.int .i64 sty1.fmt, .string sty1.single, .string sty1.top, .string sty1.first, .string sty1.middle, .string sty1.vert, .string sty1.bottom, .string sty1.newline, .string sty1.pre]) ∧ Below w.heap.size w w' := by
  go_enter Tryd.func19, Tryd.ntmps19
  go_upto_region 4 with (go_at_call 29; refine (style0 _).mono ?_; rintro e w1 ⟨rfl, b1⟩; have B1 := Aside0.mk b1; clear b1; unfold sty0 Sty.cells)
  have NX := Aside0.mk (blk_new w1 (.cells sty0.cells 54))
  have MR := Aside0.mk (blk_alloc (blk_below (blk_new w (.cells #[.int .i64 0, .string ⟨#[]⟩, .string ⟨#[]⟩, .string ⟨#[]⟩, .string ⟨#[]⟩, .string ⟨#[]⟩, .string ⟨#[]⟩, .string ⟨#[]⟩, .string ⟨#[]⟩] 24)) B1.out) (.cells sty0.cells 54))
  have BW := Aside0.mk (below_alloc ((below_alloc (Below.refl w.heap.size w) (.cells #[.int .i64 0, .string ⟨#[]⟩, .string ⟨#[]⟩, .string ⟨#[]⟩, .string ⟨#[]⟩, .string ⟨#[]⟩, .string ⟨#[]⟩, .string ⟨#[]⟩, .string ⟨#[]⟩] 24)).trans (B1.out.mono (by simp))) (.cells sty0.cells 54))
  have hsz := B1.out.size
  rw [show (w.alloc (.cells #[.int .i64 0, .string ⟨#[]⟩, .string ⟨#[]⟩, .string ⟨#[]⟩, .string ⟨#[]⟩, .string ⟨#[]⟩, .string ⟨#[]⟩, .string ⟨#[]⟩, .string ⟨#[]⟩] 24)).heap.size = w.heap.size + 1 by simp] at hsz
  change Code.wp _ _ _ _ (w1.alloc (.cells sty0.cells 54))
  obtain ⟨X, hX⟩ : ∃ X, w1.heap.size = X := ⟨_, rfl⟩
  generalize (w1.alloc (.cells sty0.cells 54)) = w2 at NX MR BW ⊢
  obtain ⟨R, hR⟩ : ∃ R, w.heap.size = R := ⟨_, rfl⟩
  have HR := Aside0.mk hR
  rw [hX] at NX hsz
  rw [hR] at MR hsz
  rw [hX, hR]
  have hXR : X ≠ R := by omega
  have hRX : R ≠ X := by omega
  clear hX hR B1
  go_upto_region 23 with (go_at_call 30; refine (style1 _).mono ?_; rintro e w3 ⟨rfl, b3⟩; unfold sty1 Sty.cells; have N3 := blk_below NX.out b3; have HN3 := Aside0.mk N3; have M3 := Aside0.mk (blk_below MR.out b3); have B3 := Aside0.mk b3; have c0 : w3.cell? ⟨X, 0, none⟩ = some (.int .i64 sty0.fmt) := (by rw [blk_cell N3]; rfl); have c1 : w3.cell? ⟨X, 1, none⟩ = some (.string sty0.single) := (by rw [blk_cell N3]; rfl); have c2 : w3.cell? ⟨X, 2, none⟩ = some (.string sty0.top) := (by rw [blk_cell N3]; rfl); have c3 : w3.cell? ⟨X, 3, none⟩ = some (.string sty0.first) := (by rw [blk_cell N3]; rfl); have c4 : w3.cell? ⟨X, 4, none⟩ = some (.string sty0.middle) := (by rw [blk_cell N3]; rfl); have c5 : w3.cell? ⟨X, 5, none⟩ = some (.string sty0.vert) := (by rw [blk_cell N3]; rfl); have c6 : w3.cell? ⟨X, 6, none⟩ = some (.string sty0.bottom) := (by rw [blk_cell N3]; rfl); have c7 : w3.cell? ⟨X, 7, none⟩ = some (.string sty0.newline) := (by rw [blk_cell N3]; rfl); have c8 : w3.cell? ⟨X, 8, none⟩ = some (.string sty0.pre) := (by rw [blk_cell N3]; rfl); have c9 : w3.cell? ⟨X, 9, none⟩ = some (.string sty0.name) := (by rw [blk_cell N3]; rfl); have f0 : w3.frozen? ⟨X, 0, none⟩ = false := blk_frozen N3 0; have f1 : w3.frozen? ⟨X, 1, none⟩ = false := blk_frozen N3 1; have f2 : w3.frozen? ⟨X, 2, none⟩ = false := blk_frozen N3 2; have f3 : w3.frozen? ⟨X, 3, none⟩ = false := blk_frozen N3 3; have f4 : w3.frozen? ⟨X, 4, none⟩ = false := blk_frozen N3 4; have f5 : w3.frozen? ⟨X, 5, none⟩ = false := blk_frozen N3 5; have f6 : w3.frozen? ⟨X, 6, none⟩ = false := blk_frozen N3 6; have f7 : w3.frozen? ⟨X, 7, none⟩ = false := blk_frozen N3 7; have f8 : w3.frozen? ⟨X, 8, none⟩ = false := blk_frozen N3 8; have f9 : w3.frozen? ⟨X, 9, none⟩ = false := blk_frozen N3 9; clear b3 N3)
  have N4 := Aside0.mk (setSty_blk HN3.out sty1)
  have M4 := Aside0.mk (setSty_far M3.out hRX sty1)
  have hXw : w.heap.size ≤ X := by have h := HR.out; omega
  have hRw : w.heap.size ≤ R := by have h := HR.out; omega
  have BB : Below w.heap.size w w3 := BW.out.trans (B3.out.mono BW.out.size)
  have B4 := Aside0.mk (setSty_below BB hXw sty1)
  clear BB
  change Code.wp _ _ _ _ (setSty w3 X sty1)
  generalize setSty w3 X sty1 = w4 at N4 M4 B4 ⊢
  clear c0 f0 c1 f1 c2 f2 c3 f3 c4 f4 c5 f5 c6 f6 c7 f7 c8 f8 c9 f9 HN3 M3 B3 BW NX MR
  have x0 : w4.cell? ⟨X, 0, none⟩ = some (.int .i64 sty1.fmt) := (by rw [blk_cell N4.out]; rfl); have x1 : w4.cell? ⟨X, 1, none⟩ = some (.string sty1.single) := (by rw [blk_cell N4.out]; rfl); have x2 : w4.cell? ⟨X, 2, none⟩ = some (.string sty1.top) := (by rw [blk_cell N4.out]; rfl); have x3 : w4.cell? ⟨X, 3, none⟩ = some (.string sty1.first) := (by rw [blk_cell N4.out]; rfl); have x4 : w4.cell? ⟨X, 4, none⟩ = some (.string sty1.middle) := (by rw [blk_cell N4.out]; rfl); have x5 : w4.cell? ⟨X, 5, none⟩ = some (.string sty1.vert) := (by rw [blk_cell N4.out]; rfl); have x6 : w4.cell? ⟨X, 6, none⟩ = some (.string sty1.bottom) := (by rw [blk_cell N4.out]; rfl); have x7 : w4.cell? ⟨X, 7, none⟩ = some (.string sty1.newline) := (by rw [blk_cell N4.out]; rfl); have x8 : w4.cell? ⟨X, 8, none⟩ = some (.string sty1.pre) := (by rw [blk_cell N4.out]; rfl)
  have r0 : w4.cell? ⟨R, 0, none⟩ = some (.int .i64 0) := (by rw [blk_cell M4.out]; rfl); have g0 : w4.frozen? ⟨R, 0, none⟩ = false := blk_frozen M4.out 0; have r1 : w4.cell? ⟨R, 1, none⟩ = some (.string ⟨#[]⟩) := (by rw [blk_cell M4.out]; rfl); have g1 : w4.frozen? ⟨R, 1, none⟩ = false := blk_frozen M4.out 1; have r2 : w4.cell? ⟨R, 2, none⟩ = some (.string ⟨#[]⟩) := (by rw [blk_cell M4.out]; rfl); have g2 : w4.frozen? ⟨R, 2, none⟩ = false := blk_frozen M4.out 2; have r3 : w4.cell? ⟨R, 3, none⟩ = some (.string ⟨#[]⟩) := (by rw [blk_cell M4.out]; rfl); have g3 : w4.frozen? ⟨R, 3, none⟩ = false := blk_frozen M4.out 3; have r4 : w4.cell? ⟨R, 4, none⟩ = some (.string ⟨#[]⟩) := (by rw [blk_cell M4.out]; rfl); have g4 : w4.frozen? ⟨R, 4, none⟩ = false := blk_frozen M4.out 4; have r5 : w4.cell? ⟨R, 5, none⟩ = some (.string ⟨#[]⟩) := (by rw [blk_cell M4.out]; rfl); have g5 : w4.frozen? ⟨R, 5, none⟩ = false := blk_frozen M4.out 5; have r6 : w4.cell? ⟨R, 6, none⟩ = some (.string ⟨#[]⟩) := (by rw [blk_cell M4.out]; rfl); have g6 : w4.frozen? ⟨R, 6, none⟩ = false := blk_frozen M4.out 6; have r7 : w4.cell? ⟨R, 7, none⟩ = some (.string ⟨#[]⟩) := (by rw [blk_cell M4.out]; rfl); have g7 : w4.frozen? ⟨R, 7, none⟩ = false := blk_frozen M4.out 7; have r8 : w4.cell? ⟨R, 8, none⟩ = some (.string ⟨#[]⟩) := (by rw [blk_cell M4.out]; rfl); have g8 : w4.frozen? ⟨R, 8, none⟩ = false := blk_frozen M4.out 8
  go_cut [] (fun wc => Aside0 (wc.heap[R]? = some (.cells #[.int .i64 sty1.fmt, .string sty1.single, .string sty1.top, .string sty1.first, .string sty1.middle, .string sty1.vert, .string sty1.bottom, .string sty1.newline, .string sty1.pre] 24 (0, 0))) ∧ Aside0 (Below w.heap.size w wc))
  case first =>
    go_wp2_with fail
    go_meet
    case rel => exact ⟨⟨setSty9_blk M4.out sty1⟩, ⟨setSty9_below B4.out hRw sty1⟩⟩
  case rest =>
    obtain ⟨hR5, hB5⟩ := hcut
    clear x0 x1 x2 x3 x4 x5 x6 x7 x8 r0 r1 r2 r3 r4 r5 r6 r7 r8 g0 g1 g2 g3 g4 g5 g6 g7 g8
    have y0 : wc.cell? ⟨R, 0, none⟩ = some (.int .i64 sty1.fmt) := (by rw [blk_cell hR5.out]; rfl); have y1 : wc.cell? ⟨R, 1, none⟩ = some (.string sty1.single) := (by rw [blk_cell hR5.out]; rfl); have y2 : wc.cell? ⟨R, 2, none⟩ = some (.string sty1.top) := (by rw [blk_cell hR5.out]; rfl); have y3 : wc.cell? ⟨R, 3, none⟩ = some (.string sty1.first) := (by rw [blk_cell hR5.out]; rfl); have y4 : wc.cell? ⟨R, 4, none⟩ = some (.string sty1.middle) := (by rw [blk_cell hR5.out]; rfl); have y5 : wc.cell? ⟨R, 5, none⟩ = some (.string sty1.vert) := (by rw [blk_cell hR5.out]; rfl); have y6 : wc.cell? ⟨R, 6, none⟩ = some (.string sty1.bottom) := (by rw [blk_cell hR5.out]; rfl); have y7 : wc.cell? ⟨R, 7, none⟩ = some (.string sty1.newline) := (by rw [blk_cell hR5.out]; rfl); have y8 : wc.cell? ⟨R, 8, none⟩ = some (.string sty1.pre) := (by rw [blk_cell hR5.out]; rfl)
    go_wp2
    exact bodyPost_ret (v := .agg #[.int .i64 sty1.fmt, .string sty1.single, .string sty1.top, .string sty1.first, .string sty1.middle, .string sty1.vert, .string sty1.bottom, .string sty1.newline, .string sty1.pre]) (by simp [results, Tryd.results19, go_sem, y0, y1, y2, y3, y4, y5, y6, y7, y8]) rfl ⟨rfl, hB5.out⟩

set_option maxHeartbeats 8000000 in
set_option maxRecDepth 100000 in
theorem named2 (w : World) : Calls Tryd.prog 19 #[.int .i64 2] w fun e w' => e = .returned (.agg #[.int .i64 sty2.fmt, .string sty2.single, .string sty2.top, .string sty2.first, .string sty2.middle, .string sty2.vert, .string sty2.bottom, .string sty2.newline, .string sty2.pre]) ∧ Below w.heap.size w w' := by
  go_enter Tryd.func19, Tryd.ntmps19
  go_upto_region 6 with (go_at_call 29; refine (style0 _).mono ?_; rintro e w1 ⟨rfl, b1⟩; have B1 := Aside0.mk b1; clear b1; unfold sty0 Sty.cells)
  have NX := Aside0.mk (blk_new w1 (.cells sty0.cells 54))
  have MR := Aside0.mk (blk_alloc (blk_below (blk_new w (.cells #[.int .i64 0, .string ⟨#[]⟩, .string ⟨#[]⟩, .string ⟨#[]⟩, .string ⟨#[]⟩, .string ⟨#[]⟩, .string ⟨#[]⟩, .string ⟨#[]⟩, .string ⟨#[]⟩] 24)) B1.out) (.cells sty0.cells 54))
  have BW := Aside0.mk (below_alloc ((below_alloc (Below.refl w.heap.size w) (.cells #[.int .i64 0, .string ⟨#[]⟩, .string ⟨#[]⟩, .string ⟨#[]⟩, .string ⟨#[]⟩, .string ⟨#[]⟩, .string ⟨#[]⟩, .string ⟨#[]⟩, .string ⟨#[]⟩] 24)).trans (B1.out.mono (by simp))) (.cells sty0.cells 54))
  have hsz := B1.out.size
  rw [show (w.alloc (.cells #[.int .i64 0, .string ⟨#[]⟩, .string ⟨#[]⟩, .string ⟨#[]⟩, .string ⟨#[]⟩, .string ⟨#[]⟩, .string ⟨#[]⟩, .string ⟨#[]⟩, .string ⟨#[]⟩] 24)).heap.size = w.heap.size + 1 by simp] at hsz
  change Code.wp _ _ _ _ (w1.alloc (.cells sty0.cells 54))
  obtain ⟨X, hX⟩ : ∃ X, w1.heap.size = X := ⟨_, rfl⟩
  generalize (w1.alloc (.cells sty0.cells 54)) = w2 at NX MR BW ⊢
  obtain ⟨R, hR⟩ : ∃ R, w.heap.size = R := ⟨_, rfl⟩
  have HR := Aside0.mk hR
  rw [hX] at NX hsz
  rw [hR] at MR hsz
  rw [hX, hR]
  have hXR : X ≠ R := by omega
  have hRX : R ≠ X := by omega
  clear hX hR B1
  go_upto_region 23 with (go_at_call 31; refine (style2 _).mono ?_; rintro e w3 ⟨rfl, b3⟩; unfold sty2 Sty.cells; have N3 := blk_below NX.out b3; have HN3 := Aside0.mk N3; have M3 := Aside0.mk (blk_below MR.out b3); have B3 := Aside0.mk b3; have c0 : w3.cell? ⟨X, 0, none⟩ = some (.int .i64 sty0.fmt) := (by rw [blk_cell N3]; rfl); have c1 : w3.cell? ⟨X, 1, none⟩ = some (.string sty0.single) := (by rw [blk_cell N3]; rfl); have c2 : w3.cell? ⟨X, 2, none⟩ = some (.string sty0.top) := (by rw [blk_cell N3]; rfl); have c3 : w3.cell? ⟨X, 3, none⟩ = some (.string sty0.first) := (by rw [blk_cell N3]; rfl); have c4 : w3.cell? ⟨X, 4, none⟩ = some (.string sty0.middle) := (by rw [blk_cell N3]; rfl); have c5 : w3.cell? ⟨X, 5, none⟩ = some (.string sty0.vert) := (by rw [blk_cell N3]; rfl); have c6 : w3.cell? ⟨X, 6, none⟩ = some (.string sty0.bottom) := (by rw [blk_cell N3]; rfl); have c7 : w3.cell? ⟨X, 7, none⟩ = some (.string sty0.newline) := (by rw [blk_cell N3]; rfl); have c8 : w3.cell? ⟨X, 8, none⟩ = some (.string sty0.pre) := (by rw [blk_cell N3]; rfl); have c9 : w3.cell? ⟨X, 9, none⟩ = some (.string sty0.name) := (by rw [blk_cell N3]; rfl); have f0 : w3.frozen? ⟨X, 0, none⟩ = false := blk_frozen N3 0; have f1 : w3.frozen? ⟨X, 1, none⟩ = false := blk_frozen N3 1; have f2 : w3.frozen? ⟨X, 2, none⟩ = false := blk_frozen N3 2; have f3 : w3.frozen? ⟨X, 3, none⟩ = false := blk_frozen N3 3; have f4 : w3.frozen? ⟨X, 4, none⟩ = false := blk_frozen N3 4; have f5 : w3.frozen? ⟨X, 5, none⟩ = false := blk_frozen N3 5; have f6 : w3.frozen? ⟨X, 6, none⟩ = false := blk_frozen N3 6; have f7 : w3.frozen? ⟨X, 7, none⟩ = false := blk_frozen N3 7; have f8 : w3.frozen? ⟨X, 8, none⟩ = false := blk_frozen N3 8; have f9 : w3.frozen? ⟨X, 9, none⟩ = false := blk_frozen N3 9; clear b3 N3)
  have N4 := Aside0.mk (setSty_blk HN3.out sty2)
  have M4 := Aside0.mk (setSty_far M3.out hRX sty2)
  have hXw : w.heap.size ≤ X := by have h := HR.out; omega
  have hRw : w.heap.size ≤ R := by have h := HR.out; omega
  have BB : Below w.heap.size w w3 := BW.out.trans (B3.out.mono BW.out.size)
  have B4 := Aside0.mk (setSty_below BB hXw sty2)
  clear BB
  change Code.wp _ _ _ _ (setSty w3 X sty2)
  generalize setSty w3 X sty2 = w4 at N4 M4 B4 ⊢
  clear c0 f0 c1 f1 c2 f2 c3 f3 c4 f4 c5 f5 c6 f6 c7 f7 c8 f8 c9 f9 HN3 M3 B3 BW NX MR
  have x0 : w4.cell? ⟨X, 0, none⟩ = some (.int .i64 sty2.fmt) := (by rw [blk_cell N4.out]; rfl); have x1 : w4.cell? ⟨X, 1, none⟩ = some (.string sty2.single) := (by rw [blk_cell N4.out]; rfl); have x2 : w4.cell? ⟨X, 2, none⟩ = some (.string sty2.top) := (by rw [blk_cell N4.out]; rfl); have x3 : w4.cell? ⟨X, 3, none⟩ = some (.string sty2.first) := (by rw [blk_cell N4.out]; rfl); have x4 : w4.cell? ⟨X, 4, none⟩ = some (.string sty2.middle) := (by rw [blk_cell N4.out]; rfl); have x5 : w4.cell? ⟨X, 5, none⟩ = some (.string sty2.vert) := (by rw [blk_cell N4.out]; rfl); have x6 : w4.cell? ⟨X, 6, none⟩ = some (.string sty2.bottom) := (by rw [blk_cell N4.out]; rfl); have x7 : w4.cell? ⟨X, 7, none⟩ = some (.string sty2.newline) := (by rw [blk_cell N4.out]; rfl); have x8 : w4.cell? ⟨X, 8, none⟩ = some (.string sty2.pre) := (by rw [blk_cell N4.out]; rfl)
  have r0 : w4.cell? ⟨R, 0, none⟩ = some (.int .i64 0) := (by rw [blk_cell M4.out]; rfl); have g0 : w4.frozen? ⟨R, 0, none⟩ = false := blk_frozen M4.out 0; have r1 : w4.cell? ⟨R, 1, none⟩ = some (.string ⟨#[]⟩) := (by rw [blk_cell M4.out]; rfl); have g1 : w4.frozen? ⟨R, 1, none⟩ = false := blk_frozen M4.out 1; have r2 : w4.cell? ⟨R, 2, none⟩ = some (.string ⟨#[]⟩) := (by rw [blk_cell M4.out]; rfl); have g2 : w4.frozen? ⟨R, 2, none⟩ = false := blk_frozen M4.out 2; have r3 : w4.cell? ⟨R, 3, none⟩ = some (.string ⟨#[]⟩) := (by rw [blk_cell M4.out]; rfl); have g3 : w4.frozen? ⟨R, 3, none⟩ = false := blk_frozen M4.out 3; have r4 : w4.cell? ⟨R, 4, none⟩ = some (.string ⟨#[]⟩) := (by rw [blk_cell M4.out]; rfl); have g4 : w4.frozen? ⟨R, 4, none⟩ = false := blk_frozen M4.out 4; have r5 : w4.cell? ⟨R, 5, none⟩ = some (.string ⟨#[]⟩) := (by rw [blk_cell M4.out]; rfl); have g5 : w4.frozen? ⟨R, 5, none⟩ = false := blk_frozen M4.out 5; have r6 : w4.cell? ⟨R, 6, none⟩ = some (.string ⟨#[]⟩) := (by rw [blk_cell M4.out]; rfl); have g6 : w4.frozen? ⟨R, 6, none⟩ = false := blk_frozen M4.out 6; have r7 : w4.cell? ⟨R, 7, none⟩ = some (.string ⟨#[]⟩) := (by rw [blk_cell M4.out]; rfl); have g7 : w4.frozen? ⟨R, 7, none⟩ = false := blk_frozen M4.out 7; have r8 : w4.cell? ⟨R, 8, none⟩ = some (.string ⟨#[]⟩) := (by rw [blk_cell M4.out]; rfl); have g8 : w4.frozen? ⟨R, 8, none⟩ = false := blk_frozen M4.out 8
  go_cut [] (fun wc => Aside0 (wc.heap[R]? = some (.cells #[.int .i64 sty2.fmt, .string sty2.single, .string sty2.top, .string sty2.first, .string sty2.middle, .string sty2.vert, .string sty2.bottom, .string sty2.newline, .string sty2.pre] 24 (0, 0))) ∧ Aside0 (Below w.heap.size w wc))
  case first =>
    go_wp2_with fail
    go_meet
    case rel => exact ⟨⟨setSty9_blk M4.out sty2⟩, ⟨setSty9_below B4.out hRw sty2⟩⟩
  case rest =>
    obtain ⟨hR5, hB5⟩ := hcut
    clear x0 x1 x2 x3 x4 x5 x6 x7 x8 r0 r1 r2 r3 r4 r5 r6 r7 r8 g0 g1 g2 g3 g4 g5 g6 g7 g8
    have y0 : wc.cell? ⟨R, 0, none⟩ = some (.int .i64 sty2.fmt) := (by rw [blk_cell hR5.out]; rfl); have y1 : wc.cell? ⟨R, 1, none⟩ = some (.string sty2.single) := (by rw [blk_cell hR5.out]; rfl); have y2 : wc.cell? ⟨R, 2, none⟩ = some (.string sty2.top) := (by rw [blk_cell hR5.out]; rfl); have y3 : wc.cell? ⟨R, 3, none⟩ = some (.string sty2.first) := (by rw [blk_cell hR5.out]; rfl); have y4 : wc.cell? ⟨R, 4, none⟩ = some (.string sty2.middle) := (by rw [blk_cell hR5.out]; rfl); have y5 : wc.cell? ⟨R, 5, none⟩ = some (.string sty2.vert) := (by rw [blk_cell hR5.out]; rfl); have y6 : wc.cell? ⟨R, 6, none⟩ = some (.string sty2.bottom) := (by rw [blk_cell hR5.out]; rfl); have y7 : wc.cell? ⟨R, 7, none⟩ = some (.string sty2.newline) := (by rw [blk_cell hR5.out]; rfl); have y8 : wc.cell? ⟨R, 8, none⟩ = some (.string sty2.pre) := (by rw [blk_cell hR5.out]; rfl)
    go_wp2
    exact bodyPost_ret (v := .agg #[.int .i64 sty2.fmt, .string sty2.single, .string sty2.top, .string sty2.first, .string sty2.middle, .string sty2.vert, .string sty2.bottom, .string sty2.newline, .string sty2.pre]) (by simp [results, Tryd.results19, go_sem, y0, y1, y2, y3, y4, y5, y6, y7, y8]) rfl ⟨rfl, hB5.out⟩

set_option maxHeartbeats 8000000 in
set_option maxRecDepth 100000 in
theorem named3 (w : World) : Calls Tryd.prog 19 #[.int .i64 3] w fun e w' => e = .returned (.agg #[.int .i64 sty3.fmt, .string sty3.single, .string sty3.top, .string sty3.first, .string sty3.middle, .string sty3.vert, .string sty3.bottom, .string sty3.newline, .string sty3.pre]) ∧ Below w.heap.size w w' := by
  go_enter Tryd.func19, Tryd.ntmps19
  go_upto_region 8 with (go_at_call 29; refine (style0 _).mono ?_; rintro e w1 ⟨rfl, b1⟩; have B1 := Aside0.mk b1; clear b1; unfold sty0 Sty.cells)
  have NX := Aside0.mk (blk_new w1 (.cells sty0.cells 54))
  have MR := Aside0.mk (blk_alloc (blk_below (blk_new w (.cells #[.int .i64 0, .string ⟨#[]⟩, .string ⟨#[]⟩, .string ⟨#[]⟩, .string ⟨#[]⟩, .string ⟨#[]⟩, .string ⟨#[]⟩, .string ⟨#[]⟩, .string ⟨#[]⟩] 24)) B1.out) (.cells sty0.cells 54))
  have BW := Aside0.mk (below_alloc ((below_alloc (Below.refl w.heap.size w) (.cells #[.int .i64 0, .string ⟨#[]⟩, .string ⟨#[]⟩, .string ⟨#[]⟩, .string ⟨#[]⟩, .string ⟨#[]⟩, .string ⟨#[]⟩, .string ⟨#[]⟩, .string ⟨#[]⟩] 24)).trans (B1.out.mono (by simp))) (.cells sty0.cells 54))
  have hsz := B1.out.size
  rw [show (w.alloc (.cells #[.int .i64 0, .string ⟨#[]⟩, .string ⟨#[]⟩, .string ⟨#[]⟩, .string ⟨#[]⟩, .string ⟨#[]⟩, .string ⟨#[]⟩, .string ⟨#[]⟩, .string ⟨#[]⟩] 24)).heap.size = w.heap.size + 1 by simp] at hsz
  change Code.wp _ _ _ _ (w1.alloc (.cells sty0.cells 54))
  obtain ⟨X, hX⟩ : ∃ X, w1.heap.size = X := ⟨_, rfl⟩
  generalize (w1.alloc (.cells sty0.cells 54)) = w2 at NX MR BW ⊢
  obtain ⟨R, hR⟩ : ∃ R, w.heap.size = R := ⟨_, rfl⟩
  have HR := Aside0.mk hR
  rw [hX] at NX hsz
  rw [hR] at MR hsz
  rw [hX, hR]
  have hXR : X ≠ R := by omega
  have hRX : R ≠ X := by omega
  clear hX hR B1
  go_upto_region 23 with (go_at_call 32; refine (style3 _).mono ?_; rintro e w3 ⟨rfl, b3⟩; unfold sty3 Sty.cells; have N3 := blk_below NX.out b3; have HN3 := Aside0.mk N3; have M3 := Aside0.mk (blk_below MR.out b3); have B3 := Aside0.mk b3; have c0 : w3.cell? ⟨X, 0, none⟩ = some (.int .i64 sty0.fmt) := (by rw [blk_cell N3]; rfl); have c1 : w3.cell? ⟨X, 1, none⟩ = some (.string sty0.single) := (by rw [blk_cell N3]; rfl); have c2 : w3.cell? ⟨X, 2, none⟩ = some (.string sty0.top) := (by rw [blk_cell N3]; rfl); have c3 : w3.cell? ⟨X, 3, none⟩ = some (.string sty0.first) := (by rw [blk_cell N3]; rfl); have c4 : w3.cell? ⟨X, 4, none⟩ = some (.string sty0.middle) := (by rw [blk_cell N3]; rfl); have c5 : w3.cell? ⟨X, 5, none⟩ = some (.string sty0.vert) := (by rw [blk_cell N3]; rfl); have c6 : w3.cell? ⟨X, 6, none⟩ = some (.string sty0.bottom) := (by rw [blk_cell N3]; rfl); have c7 : w3.cell? ⟨X, 7, none⟩ = some (.string sty0.newline) := (by rw [blk_cell N3]; rfl); have c8 : w3.cell? ⟨X, 8, none⟩ = some (.string sty0.pre) := (by rw [blk_cell N3]; rfl); have c9 : w3.cell? ⟨X, 9, none⟩ = some (.string sty0.name) := (by rw [blk_cell N3]; rfl); have f0 : w3.frozen? ⟨X, 0, none⟩ = false := blk_frozen N3 0; have f1 : w3.frozen? ⟨X, 1, none⟩ = false := blk_frozen N3 1; have f2 : w3.frozen? ⟨X, 2, none⟩ = false := blk_frozen N3 2; have f3 : w3.frozen? ⟨X, 3, none⟩ = false := blk_frozen N3 3; have f4 : w3.frozen? ⟨X, 4, none⟩ = false := blk_frozen N3 4; have f5 : w3.frozen? ⟨X, 5, none⟩ = false := blk_frozen N3 5; have f6 : w3.frozen? ⟨X, 6, none⟩ = false := blk_frozen N3 6; have f7 : w3.frozen? ⟨X, 7, none⟩ = false := blk_frozen N3 7; have f8 : w3.frozen? ⟨X, 8, none⟩ = false := blk_frozen N3 8; have f9 : w3.frozen? ⟨X, 9, none⟩ = false := blk_frozen N3 9; clear b3 N3)
  have N4 := Aside0.mk (setSty_blk HN3.out sty3)
  have M4 := Aside0.mk (setSty_far M3.out hRX sty3)
  have hXw : w.heap.size ≤ X := by have h := HR.out; omega
  have hRw : w.heap.size ≤ R := by have h := HR.out; omega
  have BB : Below w.heap.size w w3 := BW.out.trans (B3.out.mono BW.out.size)
  have B4 := Aside0.mk (setSty_below BB hXw sty3)
  clear BB
  change Code.wp _ _ _ _ (setSty w3 X sty3)
  generalize setSty w3 X sty3 = w4 at N4 M4 B4 ⊢
  clear c0 f0 c1 f1 c2 f2 c3 f3 c4 f4 c5 f5 c6 f6 c7 f7 c8 f8 c9 f9 HN3 M3 B3 BW NX MR
  have x0 : w4.cell? ⟨X, 0, none⟩ = some (.int .i64 sty3.fmt) := (by rw [blk_cell N4.out]; rfl); have x1 : w4.cell? ⟨X, 1, none⟩ = some (.string sty3.single) := (by rw [blk_cell N4.out]; rfl); have x2 : w4.cell? ⟨X, 2, none⟩ = some (.string sty3.top) := (by rw [blk_cell N4.out]; rfl); have x3 : w4.cell? ⟨X, 3, none⟩ = some (.string sty3.first) := (by rw [blk_cell N4.out]; rfl); have x4 : w4.cell? ⟨X, 4, none⟩ = some (.string sty3.middle) := (by rw [blk_cell N4.out]; rfl); have x5 : w4.cell? ⟨X, 5, none⟩ = some (.string sty3.vert) := (by rw [blk_cell N4.out]; rfl); have x6 : w4.cell? ⟨X, 6, none⟩ = some (.string sty3.bottom) := (by rw [blk_cell N4.out]; rfl); have x7 : w4.cell? ⟨X, 7, none⟩ = some (.string sty3.newline) := (by rw [blk_cell N4.out]; rfl); have x8 : w4.cell? ⟨X, 8, none⟩ = some (.string sty3.pre) := (by rw [blk_cell N4.out]; rfl)
  have r0 : w4.cell? ⟨R, 0, none⟩ = some (.int .i64 0) := (by rw [blk_cell M4.out]; rfl); have g0 : w4.frozen? ⟨R, 0, none⟩ = false := blk_frozen M4.out 0; have r1 : w4.cell? ⟨R, 1, none⟩ = some (.string ⟨#[]⟩) := (by rw [blk_cell M4.out]; rfl); have g1 : w4.frozen? ⟨R, 1, none⟩ = false := blk_frozen M4.out 1; have r2 : w4.cell? ⟨R, 2, none⟩ = some (.string ⟨#[]⟩) := (by rw [blk_cell M4.out]; rfl); have g2 : w4.frozen? ⟨R, 2, none⟩ = false := blk_frozen M4.out 2; have r3 : w4.cell? ⟨R, 3, none⟩ = some (.string ⟨#[]⟩) := (by rw [blk_cell M4.out]; rfl); have g3 : w4.frozen? ⟨R, 3, none⟩ = false := blk_frozen M4.out 3; have r4 : w4.cell? ⟨R, 4, none⟩ = some (.string ⟨#[]⟩) := (by rw [blk_cell M4.out]; rfl); have g4 : w4.frozen? ⟨R, 4, none⟩ = false := blk_frozen M4.out 4; have r5 : w4.cell? ⟨R, 5, none⟩ = some (.string ⟨#[]⟩) := (by rw [blk_cell M4.out]; rfl); have g5 : w4.frozen? ⟨R, 5, none⟩ = false := blk_frozen M4.out 5; have r6 : w4.cell? ⟨R, 6, none⟩ = some (.string ⟨#[]⟩) := (by rw [blk_cell M4.out]; rfl); have g6 : w4.frozen? ⟨R, 6, none⟩ = false := blk_frozen M4.out 6; have r7 : w4.cell? ⟨R, 7, none⟩ = some (.string ⟨#[]⟩) := (by rw [blk_cell M4.out]; rfl); have g7 : w4.frozen? ⟨R, 7, none⟩ = false := blk_frozen M4.out 7; have r8 : w4.cell? ⟨R, 8, none⟩ = some (.string ⟨#[]⟩) := (by rw [blk_cell M4.out]; rfl); have g8 : w4.frozen? ⟨R, 8, none⟩ = false := blk_frozen M4.out 8
  go_cut [] (fun wc => Aside0 (wc.heap[R]? = some (.cells #[.int .i64 sty3.fmt, .string sty3.single, .string sty3.top, .string sty3.first, .string sty3.middle, .string sty3.vert, .string sty3.bottom, .string sty3.newline, .string sty3.pre] 24 (0, 0))) ∧ Aside0 (Below w.heap.size w wc))
  case first =>
    go_wp2_with fail
    go_meet
    case rel => exact ⟨⟨setSty9_blk M4.out sty3⟩, ⟨setSty9_below B4.out hRw sty3⟩⟩
  case rest =>
    obtain ⟨hR5, hB5⟩ := hcut
    clear x0 x1 x2 x3 x4 x5 x6 x7 x8 r0 r1 r2 r3 r4 r5 r6 r7 r8 g0 g1 g2 g3 g4 g5 g6 g7 g8
    have y0 : wc.cell? ⟨R, 0, none⟩ = some (.int .i64 sty3.fmt) := (by rw [blk_cell hR5.out]; rfl); have y1 : wc.cell? ⟨R, 1, none⟩ = some (.string sty3.single) := (by rw [blk_cell hR5.out]; rfl); have y2 : wc.cell? ⟨R, 2, none⟩ = some (.string sty3.top) := (by rw [blk_cell hR5.out]; rfl); have y3 : wc.cell? ⟨R, 3, none⟩ = some (.string sty3.first) := (by rw [blk_cell hR5.out]; rfl); have y4 : wc.cell? ⟨R, 4, none⟩ = some (.string sty3.middle) := (by rw [blk_cell hR5.out]; rfl); have y5 : wc.cell? ⟨R, 5, none⟩ = some (.string sty3.vert) := (by rw [blk_cell hR5.out]; rfl); have y6 : wc.cell? ⟨R, 6, none⟩ = some (.string sty3.bottom) := (by rw [blk_cell hR5.out]; rfl); have y7 : wc.cell? ⟨R, 7, none⟩ = some (.string sty3.newline) := (by rw [blk_cell hR5.out]; rfl); have y8 : wc.cell? ⟨R, 8, none⟩ = some (.string sty3.pre) := (by rw [blk_cell hR5.out]; rfl)
    go_wp2
    exact bodyPost_ret (v := .agg #[.int .i64 sty3.fmt, .string sty3.single, .string sty3.top, .string sty3.first, .string sty3.middle, .string sty3.vert, .string sty3.bottom, .string sty3.newline, .string sty3.pre]) (by simp [results, Tryd.results19, go_sem, y0, y1, y2, y3, y4, y5, y6, y7, y8]) rfl ⟨rfl, hB5.out⟩

set_option maxHeartbeats 8000000 in
set_option maxRecDepth 100000 in
theorem named4 (w : World) : Calls Tryd.prog 19 #[.int .i64 4] w fun e w' => e = .returned (.agg #[.int .i64 sty4.fmt, .string sty4.single, .string sty4.top, .string sty4.first, .string sty4.middle, .string sty4.vert, .string sty4.bottom, .string sty4.newline, .string sty4.pre]) ∧ Below w.heap.size w w' := by
  go_enter Tryd.func19, Tryd.ntmps19
  go_upto_region 10 with (go_at_call 29; refine (style0 _).mono ?_; rintro e w1 ⟨rfl, b1⟩; have B1 := Aside0.mk b1; clear b1; unfold sty0 Sty.cells)
  have NX := Aside0.mk (blk_new w1 (.cells sty0.cells 54))
  have MR := Aside0.mk (blk_alloc (blk_below (blk_new w (.cells #[.int .i64 0, .string ⟨#[]⟩, .string ⟨#[]⟩, .string ⟨#[]⟩, .string ⟨#[]⟩, .string ⟨#[]⟩, .string ⟨#[]⟩, .string ⟨#[]⟩, .string ⟨#[]⟩] 24)) B1.out) (.cells sty0.cells 54))
  have BW := Aside0.mk (below_alloc ((below_alloc (Below.refl w.heap.size w) (.cells #[.int .i64 0, .string ⟨#[]⟩, .string ⟨#[]⟩, .string ⟨#[]⟩, .string ⟨#[]⟩, .string ⟨#[]⟩, .string ⟨#[]⟩, .string ⟨#[]⟩, .string ⟨#[]⟩] 24)).trans (B1.out.mono (by simp))) (.cells sty0.cells 54))
  have hsz := B1.out.size
  rw [show (w.alloc (.cells #[.int .i64 0, .string ⟨#[]⟩, .string ⟨#[]⟩, .string ⟨#[]⟩, .string ⟨#[]⟩, .string ⟨#[]⟩, .string ⟨#[]⟩, .string ⟨#[]⟩, .string ⟨#[]⟩] 24)).heap.size = w.heap.size + 1 by simp] at hsz
  change Code.wp _ _ _ _ (w1.alloc (.cells sty0.cells 54))
  obtain ⟨X, hX⟩ : ∃ X, w1.heap.size = X := ⟨_, rfl⟩
  generalize (w1.alloc (.cells sty0.cells 54)) = w2 at NX MR BW ⊢
  obtain ⟨R, hR⟩ : ∃ R, w.heap.size = R := ⟨_, rfl⟩
  have HR := Aside0.mk hR
  rw [hX] at NX hsz
  rw [hR] at MR hsz
  rw [hX, hR]
  have hXR : X ≠ R := by omega
  have hRX : R ≠ X := by omega
  clear hX hR B1
  go_upto_region 23 with (go_at_call 33; refine (style4 _).mono ?_; rintro e w3 ⟨rfl, b3⟩; unfold sty4 Sty.cells; have N3 := blk_below NX.out b3; have HN3 := Aside0.mk N3; have M3 := Aside0.mk (blk_below MR.out b3); have B3 := Aside0.mk b3; have c0 : w3.cell? ⟨X, 0, none⟩ = some (.int .i64 sty0.fmt) := (by rw [blk_cell N3]; rfl); have c1 : w3.cell? ⟨X, 1, none⟩ = some (.string sty0.single) := (by rw [blk_cell N3]; rfl); have c2 : w3.cell? ⟨X, 2, none⟩ = some (.string sty0.top) := (by rw [blk_cell N3]; rfl); have c3 : w3.cell? ⟨X, 3, none⟩ = some (.string sty0.first) := (by rw [blk_cell N3]; rfl); have c4 : w3.cell? ⟨X, 4, none⟩ = some (.string sty0.middle) := (by rw [blk_cell N3]; rfl); have c5 : w3.cell? ⟨X, 5, none⟩ = some (.string sty0.vert) := (by rw [blk_cell N3]; rfl); have c6 : w3.cell? ⟨X, 6, none⟩ = some (.string sty0.bottom) := (by rw [blk_cell N3]; rfl); have c7 : w3.cell? ⟨X, 7, none⟩ = some (.string sty0.newline) := (by rw [blk_cell N3]; rfl); have c8 : w3.cell? ⟨X, 8, none⟩ = some (.string sty0.pre) := (by rw [blk_cell N3]; rfl); have c9 : w3.cell? ⟨X, 9, none⟩ = some (.string sty0.name) := (by rw [blk_cell N3]; rfl); have f0 : w3.frozen? ⟨X, 0, none⟩ = false := blk_frozen N3 0; have f1 : w3.frozen? ⟨X, 1, none⟩ = false := blk_frozen N3 1; have f2 : w3.frozen? ⟨X, 2, none⟩ = false := blk_frozen N3 2; have f3 : w3.frozen? ⟨X, 3, none⟩ = false := blk_frozen N3 3; have f4 : w3.frozen? ⟨X, 4, none⟩ = false := blk_frozen N3 4; have f5 : w3.frozen? ⟨X, 5, none⟩ = false := blk_frozen N3 5; have f6 : w3.frozen? ⟨X, 6, none⟩ = false := blk_frozen N3 6; have f7 : w3.frozen? ⟨X, 7, none⟩ = false := blk_frozen N3 7; have f8 : w3.frozen? ⟨X, 8, none⟩ = false := blk_frozen N3 8; have f9 : w3.frozen? ⟨X, 9, none⟩ = false := blk_frozen N3 9; clear b3 N3)
  have N4 := Aside0.mk (setSty_blk HN3.out sty4)
  have M4 := Aside0.mk (setSty_far M3.out hRX sty4)
  have hXw : w.heap.size ≤ X := by have h := HR.out; omega
  have hRw : w.heap.size ≤ R := by have h := HR.out; omega
  have BB : Below w.heap.size w w3 := BW.out.trans (B3.out.mono BW.out.size)
  have B4 := Aside0.mk (setSty_below BB hXw sty4)
  clear BB
  change Code.wp _ _ _ _ (setSty w3 X sty4)
  generalize setSty w3 X sty4 = w4 at N4 M4 B4 ⊢
  clear c0 f0 c1 f1 c2 f2 c3 f3 c4 f4 c5 f5 c6 f6 c7 f7 c8 f8 c9 f9 HN3 M3 B3 BW NX MR
  have x0 : w4.cell? ⟨X, 0, none⟩ = some (.int .i64 sty4.fmt) := (by rw [blk_cell N4.out]; rfl); have x1 : w4.cell? ⟨X, 1, none⟩ = some (.string sty4.single) := (by rw [blk_cell N4.out]; rfl); have x2 : w4.cell? ⟨X, 2, none⟩ = some (.string sty4.top) := (by rw [blk_cell N4.out]; rfl); have x3 : w4.cell? ⟨X, 3, none⟩ = some (.string sty4.first) := (by rw [blk_cell N4.out]; rfl); have x4 : w4.cell? ⟨X, 4, none⟩ = some (.string sty4.middle) := (by rw [blk_cell N4.out]; rfl); have x5 : w4.cell? ⟨X, 5, none⟩ = some (.string sty4.vert) := (by rw [blk_cell N4.out]; rfl); have x6 : w4.cell? ⟨X, 6, none⟩ = some (.string sty4.bottom) := (by rw [blk_cell N4.out]; rfl); have x7 : w4.cell? ⟨X, 7, none⟩ = some (.string sty4.newline) := (by rw [blk_cell N4.out]; rfl); have x8 : w4.cell? ⟨X, 8, none⟩ = some (.string sty4.pre) := (by rw [blk_cell N4.out]; rfl)
  have r0 : w4.cell? ⟨R, 0, none⟩ = some (.int .i64 0) := (by rw [blk_cell M4.out]; rfl); have g0 : w4.frozen? ⟨R, 0, none⟩ = false := blk_frozen M4.out 0; have r1 : w4.cell? ⟨R, 1, none⟩ = some (.string ⟨#[]⟩) := (by rw [blk_cell M4.out]; rfl); have g1 : w4.frozen? ⟨R, 1, none⟩ = false := blk_frozen M4.out 1; have r2 : w4.cell? ⟨R, 2, none⟩ = some (.string ⟨#[]⟩) := (by rw [blk_cell M4.out]; rfl); have g2 : w4.frozen? ⟨R, 2, none⟩ = false := blk_frozen M4.out 2; have r3 : w4.cell? ⟨R, 3, none⟩ = some (.string ⟨#[]⟩) := (by rw [blk_cell M4.out]; rfl); have g3 : w4.frozen? ⟨R, 3, none⟩ = false := blk_frozen M4.out 3; have r4 : w4.cell? ⟨R, 4, none⟩ = some (.string ⟨#[]⟩) := (by rw [blk_cell M4.out]; rfl); have g4 : w4.frozen? ⟨R, 4, none⟩ = false := blk_frozen M4.out 4; have r5 : w4.cell? ⟨R, 5, none⟩ = some (.string ⟨#[]⟩) := (by rw [blk_cell M4.out]; rfl); have g5 : w4.frozen? ⟨R, 5, none⟩ = false := blk_frozen M4.out 5; have r6 : w4.cell? ⟨R, 6, none⟩ = some (.string ⟨#[]⟩) := (by rw [blk_cell M4.out]; rfl); have g6 : w4.frozen? ⟨R, 6, none⟩ = false := blk_frozen M4.out 6; have r7 : w4.cell? ⟨R, 7, none⟩ = some (.string ⟨#[]⟩) := (by rw [blk_cell M4.out]; rfl); have g7 : w4.frozen? ⟨R, 7, none⟩ = false := blk_frozen M4.out 7; have r8 : w4.cell? ⟨R, 8, none⟩ = some (.string ⟨#[]⟩) := (by rw [blk_cell M4.out]; rfl); have g8 : w4.frozen? ⟨R, 8, none⟩ = false := blk_frozen M4.out 8
  go_cut [] (fun wc => Aside0 (wc.heap[R]? = some (.cells #[.int .i64 sty4.fmt, .string sty4.single, .string sty4.top, .string sty4.first, .string sty4.middle, .string sty4.vert, .string sty4.bottom, .string sty4.newline, .string sty4.pre] 24 (0, 0))) ∧ Aside0 (Below w.heap.size w wc))
  case first =>
    go_wp2_with fail
    go_meet
    case rel => exact ⟨⟨setSty9_blk M4.out sty4⟩, ⟨setSty9_below B4.out hRw sty4⟩⟩
  case rest =>
    obtain ⟨hR5, hB5⟩ := hcut
    clear x0 x1 x2 x3 x4 x5 x6 x7 x8 r0 r1 r2 r3 r4 r5 r6 r7 r8 g0 g1 g2 g3 g4 g5 g6 g7 g8
    have y0 : wc.cell? ⟨R, 0, none⟩ = some (.int .i64 sty4.fmt) := (by rw [blk_cell hR5.out]; rfl); have y1 : wc.cell? ⟨R, 1, none⟩ = some (.string sty4.single) := (by rw [blk_cell hR5.out]; rfl); have y2 : wc.cell? ⟨R, 2, none⟩ = some (.string sty4.top) := (by rw [blk_cell hR5.out]; rfl); have y3 : wc.cell? ⟨R, 3, none⟩ = some (.string sty4.first) := (by rw [blk_cell hR5.out]; rfl); have y4 : wc.cell? ⟨R, 4, none⟩ = some (.string sty4.middle) := (by rw [blk_cell hR5.out]; rfl); have y5 : wc.cell? ⟨R, 5, none⟩ = some (.string sty4.vert) := (by rw [blk_cell hR5.out]; rfl); have y6 : wc.cell? ⟨R, 6, none⟩ = some (.string sty4.bottom) := (by rw [blk_cell hR5.out]; rfl); have y7 : wc.cell? ⟨R, 7, none⟩ = some (.string sty4.newline) := (by rw [blk_cell hR5.out]; rfl); have y8 : wc.cell? ⟨R, 8, none⟩ = some (.string sty4.pre) := (by rw [blk_cell hR5.out]; rfl)
    go_wp2
    exact bodyPost_ret (v := .agg #[.int .i64 sty4.fmt, .string sty4.single, .string sty4.top, .string sty4.first, .string sty4.middle, .string sty4.vert, .string sty4.bottom, .string sty4.newline, .string sty4.pre]) (by simp [results, Tryd.results19, go_sem, y0, y1, y2, y3, y4, y5, y6, y7, y8]) rfl ⟨rfl, hB5.out⟩

set_option maxHeartbeats 8000000 in
set_option maxRecDepth 100000 in
theorem named5 (w : World) : Calls Tryd.prog 19 #[.int .i64 5] w fun e w' => e = .returned (.agg #[.int .i64 sty5.fmt, .string sty5.single, .string sty5.top, .string sty5.first, .string sty5.middle, .string sty5.vert, .string sty5.bottom, .string sty5.newline, .string sty5.pre]) ∧ Below w.heap.size w w' := by
  go_enter Tryd.func19, Tryd.ntmps19
  go_upto_region 12 with (go_at_call 29; refine (style0 _).mono ?_; rintro e w1 ⟨rfl, b1⟩; have B1 := Aside0.mk b1; clear b1; unfold sty0 Sty.cells)
  have NX := Aside0.mk (blk_new w1 (.cells sty0.cells 54))
  have MR := Aside0.mk (blk_alloc (blk_below (blk_new w (.cells #[.int .i64 0, .string ⟨#[]⟩, .string ⟨#[]⟩, .string ⟨#[]⟩, .string ⟨#[]⟩, .string ⟨#[]⟩, .string ⟨#[]⟩, .string ⟨#[]⟩, .string ⟨#[]⟩] 24)) B1.out) (.cells sty0.cells 54))
  have BW := Aside0.mk (below_alloc ((below_alloc (Below.refl w.heap.size w) (.cells #[.int .i64 0, .string ⟨#[]⟩, .string ⟨#[]⟩, .string ⟨#[]⟩, .string ⟨#[]⟩, .string ⟨#[]⟩, .string ⟨#[]⟩, .string ⟨#[]⟩, .string ⟨#[]⟩] 24)).trans (B1.out.mono (by simp))) (.cells sty0.cells 54))
  have hsz := B1.out.size
  rw [show (w.alloc (.cells #[.int .i64 0, .string ⟨#[]⟩, .string ⟨#[]⟩, .string ⟨#[]⟩, .string ⟨#[]⟩, .string ⟨#[]⟩, .string ⟨#[]⟩, .string ⟨#[]⟩, .string ⟨#[]⟩] 24)).heap.size = w.heap.size + 1 by simp] at hsz
  change Code.wp _ _ _ _ (w1.alloc (.cells sty0.cells 54))
  obtain ⟨X, hX⟩ : ∃ X, w1.heap.size = X := ⟨_, rfl⟩
  generalize (w1.alloc (.cells sty0.cells 54)) = w2 at NX MR BW ⊢
  obtain ⟨R, hR⟩ : ∃ R, w.heap.size = R := ⟨_, rfl⟩
  have HR := Aside0.mk hR
  rw [hX] at NX hsz
  rw [hR] at MR hsz
  rw [hX, hR]
  have hXR : X ≠ R := by omega
  have hRX : R ≠ X := by omega
  clear hX hR B1
  go_upto_region 23 with (go_at_call 34; refine (style5 _).mono ?_; rintro e w3 ⟨rfl, b3⟩; unfold sty5 Sty.cells; have N3 := blk_below NX.out b3; have HN3 := Aside0.mk N3; have M3 := Aside0.mk (blk_below MR.out b3); have B3 := Aside0.mk b3; have c0 : w3.cell? ⟨X, 0, none⟩ = some (.int .i64 sty0.fmt) := (by rw [blk_cell N3]; rfl); have c1 : w3.cell? ⟨X, 1, none⟩ = some (.string sty0.single) := (by rw [blk_cell N3]; rfl); have c2 : w3.cell? ⟨X, 2, none⟩ = some (.string sty0.top) := (by rw [blk_cell N3]; rfl); have c3 : w3.cell? ⟨X, 3, none⟩ = some (.string sty0.first) := (by rw [blk_cell N3]; rfl); have c4 : w3.cell? ⟨X, 4, none⟩ = some (.string sty0.middle) := (by rw [blk_cell N3]; rfl); have c5 : w3.cell? ⟨X, 5, none⟩ = some (.string sty0.vert) := (by rw [blk_cell N3]; rfl); have c6 : w3.cell? ⟨X, 6, none⟩ = some (.string sty0.bottom) := (by rw [blk_cell N3]; rfl); have c7 : w3.cell? ⟨X, 7, none⟩ = some (.string sty0.newline) := (by rw [blk_cell N3]; rfl); have c8 : w3.cell? ⟨X, 8, none⟩ = some (.string sty0.pre) := (by rw [blk_cell N3]; rfl); have c9 : w3.cell? ⟨X, 9, none⟩ = some (.string sty0.name) := (by rw [blk_cell N3]; rfl); have f0 : w3.frozen? ⟨X, 0, none⟩ = false := blk_frozen N3 0; have f1 : w3.frozen? ⟨X, 1, none⟩ = false := blk_frozen N3 1; have f2 : w3.frozen? ⟨X, 2, none⟩ = false := blk_frozen N3 2; have f3 : w3.frozen? ⟨X, 3, none⟩ = false := blk_frozen N3 3; have f4 : w3.frozen? ⟨X, 4, none⟩ = false := blk_frozen N3 4; have f5 : w3.frozen? ⟨X, 5, none⟩ = false := blk_frozen N3 5; have f6 : w3.frozen? ⟨X, 6, none⟩ = false := blk_frozen N3 6; have f7 : w3.frozen? ⟨X, 7, none⟩ = false := blk_frozen N3 7; have f8 : w3.frozen? ⟨X, 8, none⟩ = false := blk_frozen N3 8; have f9 : w3.frozen? ⟨X, 9, none⟩ = false := blk_frozen N3 9; clear b3 N3)
  have N4 := Aside0.mk (setSty_blk HN3.out sty5)
  have M4 := Aside0.mk (setSty_far M3.out hRX sty5)
  have hXw : w.heap.size ≤ X := by have h := HR.out; omega
  have hRw : w.heap.size ≤ R := by have h := HR.out; omega
  have BB : Below w.heap.size w w3 := BW.out.trans (B3.out.mono BW.out.size)
  have B4 := Aside0.mk (setSty_below BB hXw sty5)
  clear BB
  change Code.wp _ _ _ _ (setSty w3 X sty5)
  generalize setSty w3 X sty5 = w4 at N4 M4 B4 ⊢
  clear c0 f0 c1 f1 c2 f2 c3 f3 c4 f4 c5 f5 c6 f6 c7 f7 c8 f8 c9 f9 HN3 M3 B3 BW NX MR
  have x0 : w4.cell? ⟨X, 0, none⟩ = some (.int .i64 sty5.fmt) := (by rw [blk_cell N4.out]; rfl); have x1 : w4.cell? ⟨X, 1, none⟩ = some (.string sty5.single) := (by rw [blk_cell N4.out]; rfl); have x2 : w4.cell? ⟨X, 2, none⟩ = some (.string sty5.top) := (by rw [blk_cell N4.out]; rfl); have x3 : w4.cell? ⟨X, 3, none⟩ = some (.string sty5.first) := (by rw [blk_cell N4.out]; rfl); have x4 : w4.cell? ⟨X, 4, none⟩ = some (.string sty5.middle) := (by rw [blk_cell N4.out]; rfl); have x5 : w4.cell? ⟨X, 5, none⟩ = some (.string sty5.vert) := (by rw [blk_cell N4.out]; rfl); have x6 : w4.cell? ⟨X, 6, none⟩ = some (.string sty5.bottom) := (by rw [blk_cell N4.out]; rfl); have x7 : w4.cell? ⟨X, 7, none⟩ = some (.string sty5.newline) := (by rw [blk_cell N4.out]; rfl); have x8 : w4.cell? ⟨X, 8, none⟩ = some (.string sty5.pre) := (by rw [blk_cell N4.out]; rfl)
  have r0 : w4.cell? ⟨R, 0, none⟩ = some (.int .i64 0) := (by rw [blk_cell M4.out]; rfl); have g0 : w4.frozen? ⟨R, 0, none⟩ = false := blk_frozen M4.out 0; have r1 : w4.cell? ⟨R, 1, none⟩ = some (.string ⟨#[]⟩) := (by rw [blk_cell M4.out]; rfl); have g1 : w4.frozen? ⟨R, 1, none⟩ = false := blk_frozen M4.out 1; have r2 : w4.cell? ⟨R, 2, none⟩ = some (.string ⟨#[]⟩) := (by rw [blk_cell M4.out]; rfl); have g2 : w4.frozen? ⟨R, 2, none⟩ = false := blk_frozen M4.out 2; have r3 : w4.cell? ⟨R, 3, none⟩ = some (.string ⟨#[]⟩) := (by rw [blk_cell M4.out]; rfl); have g3 : w4.frozen? ⟨R, 3, none⟩ = false := blk_frozen M4.out 3; have r4 : w4.cell? ⟨R, 4, none⟩ = some (.string ⟨#[]⟩) := (by rw [blk_cell M4.out]; rfl); have g4 : w4.frozen? ⟨R, 4, none⟩ = false := blk_frozen M4.out 4; have r5 : w4.cell? ⟨R, 5, none⟩ = some (.string ⟨#[]⟩) := (by rw [blk_cell M4.out]; rfl); have g5 : w4.frozen? ⟨R, 5, none⟩ = false := blk_frozen M4.out 5; have r6 : w4.cell? ⟨R, 6, none⟩ = some (.string ⟨#[]⟩) := (by rw [blk_cell M4.out]; rfl); have g6 : w4.frozen? ⟨R, 6, none⟩ = false := blk_frozen M4.out 6; have r7 : w4.cell? ⟨R, 7, none⟩ = some (.string ⟨#[]⟩) := (by rw [blk_cell M4.out]; rfl); have g7 : w4.frozen? ⟨R, 7, none⟩ = false := blk_frozen M4.out 7; have r8 : w4.cell? ⟨R, 8, none⟩ = some (.string ⟨#[]⟩) := (by rw [blk_cell M4.out]; rfl); have g8 : w4.frozen? ⟨R, 8, none⟩ = false := blk_frozen M4.out 8
  go_cut [] (fun wc => Aside0 (wc.heap[R]? = some (.cells #[.int .i64 sty5.fmt, .string sty5.single, .string sty5.top, .string sty5.first, .string sty5.middle, .string sty5.vert, .string sty5.bottom, .string sty5.newline, .string sty5.pre] 24 (0, 0))) ∧ Aside0 (Below w.heap.size w wc))
  case first =>
    go_wp2_with fail
    go_meet
    case rel => exact ⟨⟨setSty9_blk M4.out sty5⟩, ⟨setSty9_below B4.out hRw sty5⟩⟩
  case rest =>
    obtain ⟨hR5, hB5⟩ := hcut
    clear x0 x1 x2 x3 x4 x5 x6 x7 x8 r0 r1 r2 r3 r4 r5 r6 r7 r8 g0 g1 g2 g3 g4 g5 g6 g7 g8
    have y0 : wc.cell? ⟨R, 0, none⟩ = some (.int .i64 sty5.fmt) := (by rw [blk_cell hR5.out]; rfl); have y1 : wc.cell? ⟨R, 1, none⟩ = some (.string sty5.single) := (by rw [blk_cell hR5.out]; rfl); have y2 : wc.cell? ⟨R, 2, none⟩ = some (.string sty5.top) := (by rw [blk_cell hR5.out]; rfl); have y3 : wc.cell? ⟨R, 3, none⟩ = some (.string sty5.first) := (by rw [blk_cell hR5.out]; rfl); have y4 : wc.cell? ⟨R, 4, none⟩ = some (.string sty5.middle) := (by rw [blk_cell hR5.out]; rfl); have y5 : wc.cell? ⟨R, 5, none⟩ = some (.string sty5.vert) := (by rw [blk_cell hR5.out]; rfl); have y6 : wc.cell? ⟨R, 6, none⟩ = some (.string sty5.bottom) := (by rw [blk_cell hR5.out]; rfl); have y7 : wc.cell? ⟨R, 7, none⟩ = some (.string sty5.newline) := (by rw [blk_cell hR5.out]; rfl); have y8 : wc.cell? ⟨R, 8, none⟩ = some (.string sty5.pre) := (by rw [blk_cell hR5.out]; rfl)
    go_wp2
    exact bodyPost_ret (v := .agg #[.int .i64 sty5.fmt, .string sty5.single, .string sty5.top, .string sty5.first, .string sty5.middle, .string sty5.vert, .string sty5.bottom, .string sty5.newline, .string sty5.pre]) (by simp [results, Tryd.results19, go_sem, y0, y1, y2, y3, y4, y5, y6, y7, y8]) rfl ⟨rfl, hB5.out⟩

set_option maxHeartbeats 8000000 in
set_option maxRecDepth 100000 in
theorem named6 (w : World) : Calls Tryd.prog 19 #[.int .i64 6] w fun e w' => e = .returned (.agg #[.int .i64 sty6.fmt, .string sty6.single, .string sty6.top, .string sty6.first, .string sty6.middle, .string sty6.vert, .string sty6.bottom, .string sty6.newline, .string sty6.pre]) ∧ Below w.heap.size w w' := by
  go_enter Tryd.func19, Tryd.ntmps19
  go_upto_region 14 with (go_at_call 29; refine (style0 _).mono ?_; rintro e w1 ⟨rfl, b1⟩; have B1 := Aside0.mk b1; clear b1; unfold sty0 Sty.cells)
  have NX := Aside0.mk (blk_new w1 (.cells sty0.cells 54))
  have MR := Aside0.mk (blk_alloc (blk_below (blk_new w (.cells #[.int .i64 0, .string ⟨#[]⟩, .string ⟨#[]⟩, .string ⟨#[]⟩, .string ⟨#[]⟩, .string ⟨#[]⟩, .string ⟨#[]⟩, .string ⟨#[]⟩, .string ⟨#[]⟩] 24)) B1.out) (.cells sty0.cells 54))
  have BW := Aside0.mk (below_alloc ((below_alloc (Below.refl w.heap.size w) (.cells #[.int .i64 0, .string ⟨#[]⟩, .string ⟨#[]⟩, .string ⟨#[]⟩, .string ⟨#[]⟩, .string ⟨#[]⟩, .string ⟨#[]⟩, .string ⟨#[]⟩, .string ⟨#[]⟩] 24)).trans (B1.out.mono (by simp))) (.cells sty0.cells 54))
  have hsz := B1.out.size
  rw [show (w.alloc (.cells #[.int .i64 0, .string ⟨#[]⟩, .string ⟨#[]⟩, .string ⟨#[]⟩, .string ⟨#[]⟩, .string ⟨#[]⟩, .string ⟨#[]⟩, .string ⟨#[]⟩, .string ⟨#[]⟩] 24)).heap.size = w.heap.size + 1 by simp] at hsz
  change Code.wp _ _ _ _ (w1.alloc (.cells sty0.cells 54))
  obtain ⟨X, hX⟩ : ∃ X, w1.heap.size = X := ⟨_, rfl⟩
  generalize (w1.alloc (.cells sty0.cells 54)) = w2 at NX MR BW ⊢
  obtain ⟨R, hR⟩ : ∃ R, w.heap.size = R := ⟨_, rfl⟩
  have HR := Aside0.mk hR
  rw [hX] at NX hsz
  rw [hR] at MR hsz
  rw [hX, hR]
  have hXR : X ≠ R := by omega
  have hRX : R ≠ X := by omega
  clear hX hR B1
  go_upto_region 23 with (go_at_call 35; refine (style6 _).mono ?_; rintro e w3 ⟨rfl, b3⟩; unfold sty6 Sty.cells; have N3 := blk_below NX.out b3; have HN3 := Aside0.mk N3; have M3 := Aside0.mk (blk_below MR.out b3); have B3 := Aside0.mk b3; have c0 : w3.cell? ⟨X, 0, none⟩ = some (.int .i64 sty0.fmt) := (by rw [blk_cell N3]; rfl); have c1 : w3.cell? ⟨X, 1, none⟩ = some (.string sty0.single) := (by rw [blk_cell N3]; rfl); have c2 : w3.cell? ⟨X, 2, none⟩ = some (.string sty0.top) := (by rw [blk_cell N3]; rfl); have c3 : w3.cell? ⟨X, 3, none⟩ = some (.string sty0.first) := (by rw [blk_cell N3]; rfl); have c4 : w3.cell? ⟨X, 4, none⟩ = some (.string sty0.middle) := (by rw [blk_cell N3]; rfl); have c5 : w3.cell? ⟨X, 5, none⟩ = some (.string sty0.vert) := (by rw [blk_cell N3]; rfl); have c6 : w3.cell? ⟨X, 6, none⟩ = some (.string sty0.bottom) := (by rw [blk_cell N3]; rfl); have c7 : w3.cell? ⟨X, 7, none⟩ = some (.string sty0.newline) := (by rw [blk_cell N3]; rfl); have c8 : w3.cell? ⟨X, 8, none⟩ = some (.string sty0.pre) := (by rw [blk_cell N3]; rfl); have c9 : w3.cell? ⟨X, 9, none⟩ = some (.string sty0.name) := (by rw [blk_cell N3]; rfl); have f0 : w3.frozen? ⟨X, 0, none⟩ = false := blk_frozen N3 0; have f1 : w3.frozen? ⟨X, 1, none⟩ = false := blk_frozen N3 1; have f2 : w3.frozen? ⟨X, 2, none⟩ = false := blk_frozen N3 2; have f3 : w3.frozen? ⟨X, 3, none⟩ = false := blk_frozen N3 3; have f4 : w3.frozen? ⟨X, 4, none⟩ = false := blk_frozen N3 4; have f5 : w3.frozen? ⟨X, 5, none⟩ = false := blk_frozen N3 5; have f6 : w3.frozen? ⟨X, 6, none⟩ = false := blk_frozen N3 6; have f7 : w3.frozen? ⟨X, 7, none⟩ = false := blk_frozen N3 7; have f8 : w3.frozen? ⟨X, 8, none⟩ = false := blk_frozen N3 8; have f9 : w3.frozen? ⟨X, 9, none⟩ = false := blk_frozen N3 9; clear b3 N3)
  have N4 := Aside0.mk (setSty_blk HN3.out sty6)
  have M4 := Aside0.mk (setSty_far M3.out hRX sty6)
  have hXw : w.heap.size ≤ X := by have h := HR.out; omega
  have hRw : w.heap.size ≤ R := by have h := HR.out; omega
  have BB : Below w.heap.size w w3 := BW.out.trans (B3.out.mono BW.out.size)
  have B4 := Aside0.mk (setSty_below BB hXw sty6)
  clear BB
  change Code.wp _ _ _ _ (setSty w3 X sty6)
  generalize setSty w3 X sty6 = w4 at N4 M4 B4 ⊢
  clear c0 f0 c1 f1 c2 f2 c3 f3 c4 f4 c5 f5 c6 f6 c7 f7 c8 f8 c9 f9 HN3 M3 B3 BW NX MR
  have x0 : w4.cell? ⟨X, 0, none⟩ = some (.int .i64 sty6.fmt) := (by rw [blk_cell N4.out]; rfl); have x1 : w4.cell? ⟨X, 1, none⟩ = some (.string sty6.single) := (by rw [blk_cell N4.out]; rfl); have x2 : w4.cell? ⟨X, 2, none⟩ = some (.string sty6.top) := (by rw [blk_cell N4.out]; rfl); have x3 : w4.cell? ⟨X, 3, none⟩ = some (.string sty6.first) := (by rw [blk_cell N4.out]; rfl); have x4 : w4.cell? ⟨X, 4, none⟩ = some (.string sty6.middle) := (by rw [blk_cell N4.out]; rfl); have x5 : w4.cell? ⟨X, 5, none⟩ = some (.string sty6.vert) := (by rw [blk_cell N4.out]; rfl); have x6 : w4.cell? ⟨X, 6, none⟩ = some (.string sty6.bottom) := (by rw [blk_cell N4.out]; rfl); have x7 : w4.cell? ⟨X, 7, none⟩ = some (.string sty6.newline) := (by rw [blk_cell N4.out]; rfl); have x8 : w4.cell? ⟨X, 8, none⟩ = some (.string sty6.pre) := (by rw [blk_cell N4.out]; rfl)
  have r0 : w4.cell? ⟨R, 0, none⟩ = some (.int .i64 0) := (by rw [blk_cell M4.out]; rfl); have g0 : w4.frozen? ⟨R, 0, none⟩ = false := blk_frozen M4.out 0; have r1 : w4.cell? ⟨R, 1, none⟩ = some (.string ⟨#[]⟩) := (by rw [blk_cell M4.out]; rfl); have g1 : w4.frozen? ⟨R, 1, none⟩ = false := blk_frozen M4.out 1; have r2 : w4.cell? ⟨R, 2, none⟩ = some (.string ⟨#[]⟩) := (by rw [blk_cell M4.out]; rfl); have g2 : w4.frozen? ⟨R, 2, none⟩ = false := blk_frozen M4.out 2; have r3 : w4.cell? ⟨R, 3, none⟩ = some (.string ⟨#[]⟩) := (by rw [blk_cell M4.out]; rfl); have g3 : w4.frozen? ⟨R, 3, none⟩ = false := blk_frozen M4.out 3; have r4 : w4.cell? ⟨R, 4, none⟩ = some (.string ⟨#[]⟩) := (by rw [blk_cell M4.out]; rfl); have g4 : w4.frozen? ⟨R, 4, none⟩ = false := blk_frozen M4.out 4; have r5 : w4.cell? ⟨R, 5, none⟩ = some (.string ⟨#[]⟩) := (by rw [blk_cell M4.out]; rfl); have g5 : w4.frozen? ⟨R, 5, none⟩ = false := blk_frozen M4.out 5; have r6 : w4.cell? ⟨R, 6, none⟩ = some (.string ⟨#[]⟩) := (by rw [blk_cell M4.out]; rfl); have g6 : w4.frozen? ⟨R, 6, none⟩ = false := blk_frozen M4.out 6; have r7 : w4.cell? ⟨R, 7, none⟩ = some (.string ⟨#[]⟩) := (by rw [blk_cell M4.out]; rfl); have g7 : w4.frozen? ⟨R, 7, none⟩ = false := blk_frozen M4.out 7; have r8 : w4.cell? ⟨R, 8, none⟩ = some (.string ⟨#[]⟩) := (by rw [blk_cell M4.out]; rfl); have g8 : w4.frozen? ⟨R, 8, none⟩ = false := blk_frozen M4.out 8
  go_cut [] (fun wc => Aside0 (wc.heap[R]? = some (.cells #[.int .i64 sty6.fmt, .string sty6.single, .string sty6.top, .string sty6.first, .string sty6.middle, .string sty6.vert, .string sty6.bottom, .string sty6.newline, .string sty6.pre] 24 (0, 0))) ∧ Aside0 (Below w.heap.size w wc))
  case first =>
    go_wp2_with fail
    go_meet
    case rel => exact ⟨⟨setSty9_blk M4.out sty6⟩, ⟨setSty9_below B4.out hRw sty6⟩⟩
  case rest =>
    obtain ⟨hR5, hB5⟩ := hcut
    clear x0 x1 x2 x3 x4 x5 x6 x7 x8 r0 r1 r2 r3 r4 r5 r6 r7 r8 g0 g1 g2 g3 g4 g5 g6 g7 g8
    have y0 : wc.cell? ⟨R, 0, none⟩ = some (.int .i64 sty6.fmt) := (by rw [blk_cell hR5.out]; rfl); have y1 : wc.cell? ⟨R, 1, none⟩ = some (.string sty6.single) := (by rw [blk_cell hR5.out]; rfl); have y2 : wc.cell? ⟨R, 2, none⟩ = some (.string sty6.top) := (by rw [blk_cell hR5.out]; rfl); have y3 : wc.cell? ⟨R, 3, none⟩ = some (.string sty6.first) := (by rw [blk_cell hR5.out]; rfl); have y4 : wc.cell? ⟨R, 4, none⟩ = some (.string sty6.middle) := (by rw [blk_cell hR5.out]; rfl); have y5 : wc.cell? ⟨R, 5, none⟩ = some (.string sty6.vert) := (by rw [blk_cell hR5.out]; rfl); have y6 : wc.cell? ⟨R, 6, none⟩ = some (.string sty6.bottom) := (by rw [blk_cell hR5.out]; rfl); have y7 : wc.cell? ⟨R, 7, none⟩ = some (.string sty6.newline) := (by rw [blk_cell hR5.out]; rfl); have y8 : wc.cell? ⟨R, 8, none⟩ = some (.string sty6.pre) := (by rw [blk_cell hR5.out]; rfl)
    go_wp2
    exact bodyPost_ret (v := .agg #[.int .i64 sty6.fmt, .string sty6.single, .string sty6.top, .string sty6.first, .string sty6.middle, .string sty6.vert, .string sty6.bottom, .string sty6.newline, .string sty6.pre]) (by simp [results, Tryd.results19, go_sem, y0, y1, y2, y3, y4, y5, y6, y7, y8]) rfl ⟨rfl, hB5.out⟩

set_option maxHeartbeats 8000000 in
set_option maxRecDepth 100000 in
theorem named7 (w : World) : Calls Tryd.prog 19 #[.int .i64 7] w fun e w' => e = .returned (.agg #[.int .i64 sty7.fmt, .string sty7.single, .string sty7.top, .string sty7.first, .string sty7.middle, .string sty7.vert, .string sty7.bottom, .string sty7.newline, .string sty7.pre]) ∧ Below w.heap.size w w' := by
  go_enter Tryd.func19, Tryd.ntmps19
  go_upto_region 16 with (go_at_call 29; refine (style0 _).mono ?_; rintro e w1 ⟨rfl, b1⟩; have B1 := Aside0.mk b1; clear b1; unfold sty0 Sty.cells)
  have NX := Aside0.mk (blk_new w1 (.cells sty0.cells 54))
  have MR := Aside0.mk (blk_alloc (blk_below (blk_new w (.cells #[.int .i64 0, .string ⟨#[]⟩, .string ⟨#[]⟩, .string ⟨#[]⟩, .string ⟨#[]⟩, .string ⟨#[]⟩, .string ⟨#[]⟩, .string ⟨#[]⟩, .string ⟨#[]⟩] 24)) B1.out) (.cells sty0.cells 54))
  have BW := Aside0.mk (below_alloc ((below_alloc (Below.refl w.heap.size w) (.cells #[.int .i64 0, .string ⟨#[]⟩, .string ⟨#[]⟩, .string ⟨#[]⟩, .string ⟨#[]⟩, .string ⟨#[]⟩, .string ⟨#[]⟩, .string ⟨#[]⟩, .string ⟨#[]⟩] 24)).trans (B1.out.mono (by simp))) (.cells sty0.cells 54))
  have hsz := B1.out.size
  rw [show (w.alloc (.cells #[.int .i64 0, .string ⟨#[]⟩, .string ⟨#[]⟩, .string ⟨#[]⟩, .string ⟨#[]⟩, .string ⟨#[]⟩, .string ⟨#[]⟩, .string ⟨#[]⟩, .string ⟨#[]⟩] 24)).heap.size = w.heap.size + 1 by simp] at hsz
  change Code.wp _ _ _ _ (w1.alloc (.cells sty0.cells 54))
  obtain ⟨X, hX⟩ : ∃ X, w1.heap.size = X := ⟨_, rfl⟩
  generalize (w1.alloc (.cells sty0.cells 54)) = w2 at NX MR BW ⊢
  obtain ⟨R, hR⟩ : ∃ R, w.heap.size = R := ⟨_, rfl⟩
  have HR := Aside0.mk hR
  rw [hX] at NX hsz
  rw [hR] at MR hsz
  rw [hX, hR]
  have hXR : X ≠ R := by omega
  have hRX : R ≠ X := by omega
  clear hX hR B1
  go_upto_region 23 with (go_at_call 36; refine (style7 _).mono ?_; rintro e w3 ⟨rfl, b3⟩; unfold sty7 Sty.cells; have N3 := blk_below NX.out b3; have HN3 := Aside0.mk N3; have M3 := Aside0.mk (blk_below MR.out b3); have B3 := Aside0.mk b3; have c0 : w3.cell? ⟨X, 0, none⟩ = some (.int .i64 sty0.fmt) := (by rw [blk_cell N3]; rfl); have c1 : w3.cell? ⟨X, 1, none⟩ = some (.string sty0.single) := (by rw [blk_cell N3]; rfl); have c2 : w3.cell? ⟨X, 2, none⟩ = some (.string sty0.top) := (by rw [blk_cell N3]; rfl); have c3 : w3.cell? ⟨X, 3, none⟩ = some (.string sty0.first) := (by rw [blk_cell N3]; rfl); have c4 : w3.cell? ⟨X, 4, none⟩ = some (.string sty0.middle) := (by rw [blk_cell N3]; rfl); have c5 : w3.cell? ⟨X, 5, none⟩ = some (.string sty0.vert) := (by rw [blk_cell N3]; rfl); have c6 : w3.cell? ⟨X, 6, none⟩ = some (.string sty0.bottom) := (by rw [blk_cell N3]; rfl); have c7 : w3.cell? ⟨X, 7, none⟩ = some (.string sty0.newline) := (by rw [blk_cell N3]; rfl); have c8 : w3.cell? ⟨X, 8, none⟩ = some (.string sty0.pre) := (by rw [blk_cell N3]; rfl); have c9 : w3.cell? ⟨X, 9, none⟩ = some (.string sty0.name) := (by rw [blk_cell N3]; rfl); have f0 : w3.frozen? ⟨X, 0, none⟩ = false := blk_frozen N3 0; have f1 : w3.frozen? ⟨X, 1, none⟩ = false := blk_frozen N3 1; have f2 : w3.frozen? ⟨X, 2, none⟩ = false := blk_frozen N3 2; have f3 : w3.frozen? ⟨X, 3, none⟩ = false := blk_frozen N3 3; have f4 : w3.frozen? ⟨X, 4, none⟩ = false := blk_frozen N3 4; have f5 : w3.frozen? ⟨X, 5, none⟩ = false := blk_frozen N3 5; have f6 : w3.frozen? ⟨X, 6, none⟩ = false := blk_frozen N3 6; have f7 : w3.frozen? ⟨X, 7, none⟩ = false := blk_frozen N3 7; have f8 : w3.frozen? ⟨X, 8, none⟩ = false := blk_frozen N3 8; have f9 : w3.frozen? ⟨X, 9, none⟩ = false := blk_frozen N3 9; clear b3 N3)
  have N4 := Aside0.mk (setSty_blk HN3.out sty7)
  have M4 := Aside0.mk (setSty_far M3.out hRX sty7)
  have hXw : w.heap.size ≤ X := by have h := HR.out; omega
  have hRw : w.heap.size ≤ R := by have h := HR.out; omega
  have BB : Below w.heap.size w w3 := BW.out.trans (B3.out.mono BW.out.size)
  have B4 := Aside0.mk (setSty_below BB hXw sty7)
  clear BB
  change Code.wp _ _ _ _ (setSty w3 X sty7)
  generalize setSty w3 X sty7 = w4 at N4 M4 B4 ⊢
  clear c0 f0 c1 f1 c2 f2 c3 f3 c4 f4 c5 f5 c6 f6 c7 f7 c8 f8 c9 f9 HN3 M3 B3 BW NX MR
  have x0 : w4.cell? ⟨X, 0, none⟩ = some (.int .i64 sty7.fmt) := (by rw [blk_cell N4.out]; rfl); have x1 : w4.cell? ⟨X, 1, none⟩ = some (.string sty7.single) := (by rw [blk_cell N4.out]; rfl); have x2 : w4.cell? ⟨X, 2, none⟩ = some (.string sty7.top) := (by rw [blk_cell N4.out]; rfl); have x3 : w4.cell? ⟨X, 3, none⟩ = some (.string sty7.first) := (by rw [blk_cell N4.out]; rfl); have x4 : w4.cell? ⟨X, 4, none⟩ = some (.string sty7.middle) := (by rw [blk_cell N4.out]; rfl); have x5 : w4.cell? ⟨X, 5, none⟩ = some (.string sty7.vert) := (by rw [blk_cell N4.out]; rfl); have x6 : w4.cell? ⟨X, 6, none⟩ = some (.string sty7.bottom) := (by rw [blk_cell N4.out]; rfl); have x7 : w4.cell? ⟨X, 7, none⟩ = some (.string sty7.newline) := (by rw [blk_cell N4.out]; rfl); have x8 : w4.cell? ⟨X, 8, none⟩ = some (.string sty7.pre) := (by rw [blk_cell N4.out]; rfl)
  have r0 : w4.cell? ⟨R, 0, none⟩ = some (.int .i64 0) := (by rw [blk_cell M4.out]; rfl); have g0 : w4.frozen? ⟨R, 0, none⟩ = false := blk_frozen M4.out 0; have r1 : w4.cell? ⟨R, 1, none⟩ = some (.string ⟨#[]⟩) := (by rw [blk_cell M4.out]; rfl); have g1 : w4.frozen? ⟨R, 1, none⟩ = false := blk_frozen M4.out 1; have r2 : w4.cell? ⟨R, 2, none⟩ = some (.string ⟨#[]⟩) := (by rw [blk_cell M4.out]; rfl); have g2 : w4.frozen? ⟨R, 2, none⟩ = false := blk_frozen M4.out 2; have r3 : w4.cell? ⟨R, 3, none⟩ = some (.string ⟨#[]⟩) := (by rw [blk_cell M4.out]; rfl); have g3 : w4.frozen? ⟨R, 3, none⟩ = false := blk_frozen M4.out 3; have r4 : w4.cell? ⟨R, 4, none⟩ = some (.string ⟨#[]⟩) := (by rw [blk_cell M4.out]; rfl); have g4 : w4.frozen? ⟨R, 4, none⟩ = false := blk_frozen M4.out 4; have r5 : w4.cell? ⟨R, 5, none⟩ = some (.string ⟨#[]⟩) := (by rw [blk_cell M4.out]; rfl); have g5 : w4.frozen? ⟨R, 5, none⟩ = false := blk_frozen M4.out 5; have r6 : w4.cell? ⟨R, 6, none⟩ = some (.string ⟨#[]⟩) := (by rw [blk_cell M4.out]; rfl); have g6 : w4.frozen? ⟨R, 6, none⟩ = false := blk_frozen M4.out 6; have r7 : w4.cell? ⟨R, 7, none⟩ = some (.string ⟨#[]⟩) := (by rw [blk_cell M4.out]; rfl); have g7 : w4.frozen? ⟨R, 7, none⟩ = false := blk_frozen M4.out 7; have r8 : w4.cell? ⟨R, 8, none⟩ = some (.string ⟨#[]⟩) := (by rw [blk_cell M4.out]; rfl); have g8 : w4.frozen? ⟨R, 8, none⟩ = false := blk_frozen M4.out 8
  go_cut [] (fun wc => Aside0 (wc.heap[R]? = some (.cells #[.int .i64 sty7.fmt, .string sty7.single, .string sty7.top, .string sty7.first, .string sty7.middle, .string sty7.vert, .string sty7.bottom, .string sty7.newline, .string sty7.pre] 24 (0, 0))) ∧ Aside0 (Below w.heap.size w wc))
  case first =>
    go_wp2_with fail
    go_meet
    case rel => exact ⟨⟨setSty9_blk M4.out sty7⟩, ⟨setSty9_below B4.out hRw sty7⟩⟩
  case rest =>
    obtain ⟨hR5, hB5⟩ := hcut
    clear x0 x1 x2 x3 x4 x5 x6 x7 x8 r0 r1 r2 r3 r4 r5 r6 r7 r8 g0 g1 g2 g3 g4 g5 g6 g7 g8
    have y0 : wc.cell? ⟨R, 0, none⟩ = some (.int .i64 sty7.fmt) := (by rw [blk_cell hR5.out]; rfl); have y1 : wc.cell? ⟨R, 1, none⟩ = some (.string sty7.single) := (by rw [blk_cell hR5.out]; rfl); have y2 : wc.cell? ⟨R, 2, none⟩ = some (.string sty7.top) := (by rw [blk_cell hR5.out]; rfl); have y3 : wc.cell? ⟨R, 3, none⟩ = some (.string sty7.first) := (by rw [blk_cell hR5.out]; rfl); have y4 : wc.cell? ⟨R, 4, none⟩ = some (.string sty7.middle) := (by rw [blk_cell hR5.out]; rfl); have y5 : wc.cell? ⟨R, 5, none⟩ = some (.string sty7.vert) := (by rw [blk_cell hR5.out]; rfl); have y6 : wc.cell? ⟨R, 6, none⟩ = some (.string sty7.bottom) := (by rw [blk_cell hR5.out]; rfl); have y7 : wc.cell? ⟨R, 7, none⟩ = some (.string sty7.newline) := (by rw [blk_cell hR5.out]; rfl); have y8 : wc.cell? ⟨R, 8, none⟩ = some (.string sty7.pre) := (by rw [blk_cell hR5.out]; rfl)
    go_wp2
    exact bodyPost_ret (v := .agg #[.int .i64 sty7.fmt, .string sty7.single, .string sty7.top, .string sty7.first, .string sty7.middle, .string sty7.vert, .string sty7.bottom, .string sty7.newline, .string sty7.pre]) (by simp [results, Tryd.results19, go_sem, y0, y1, y2, y3, y4, y5, y6, y7, y8]) rfl ⟨rfl, hB5.out⟩

set_option maxHeartbeats 8000000 in
set_option maxRecDepth 100000 in
theorem named8 (w : World) : Calls Tryd.prog 19 #[.int .i64 8] w fun e w' => e = .returned (.agg #[.int .i64 sty8.fmt, .string sty8.single, .string sty8.top, .string sty8.first, .string sty8.middle, .string sty8.vert, .string sty8.bottom, .string sty8.newline, .string sty8.pre]) ∧ Below w.heap.size w w' := by
  go_enter Tryd.func19, Tryd.ntmps19
  go_upto_region 18 with (go_at_call 29; refine (style0 _).mono ?_; rintro e w1 ⟨rfl, b1⟩; have B1 := Aside0.mk b1; clear b1; unfold sty0 Sty.cells)
  have NX := Aside0.mk (blk_new w1 (.cells sty0.cells 54))
  have MR := Aside0.mk (blk_alloc (blk_below (blk_new w (.cells #[.int .i64 0, .string ⟨#[]⟩, .string ⟨#[]⟩, .string ⟨#[]⟩, .string ⟨#[]⟩, .string ⟨#[]⟩, .string ⟨#[]⟩, .string ⟨#[]⟩, .string ⟨#[]⟩] 24)) B1.out) (.cells sty0.cells 54))
  have BW := Aside0.mk (below_alloc ((below_alloc (Below.refl w.heap.size w) (.cells #[.int .i64 0, .string ⟨#[]⟩, .string ⟨#[]⟩, .string ⟨#[]⟩, .string ⟨#[]⟩, .string ⟨#[]⟩, .string ⟨#[]⟩, .string ⟨#[]⟩, .string ⟨#[]⟩] 24)).trans (B1.out.mono (by simp))) (.cells sty0.cells 54))
  have hsz := B1.out.size
  rw [show (w.alloc (.cells #[.int .i64 0, .string ⟨#[]⟩, .string ⟨#[]⟩, .string ⟨#[]⟩, .string ⟨#[]⟩, .string ⟨#[]⟩, .string ⟨#[]⟩, .string ⟨#[]⟩, .string ⟨#[]⟩] 24)).heap.size = w.heap.size + 1 by simp] at hsz
  change Code.wp _ _ _ _ (w1.alloc (.cells sty0.cells 54))
  obtain ⟨X, hX⟩ : ∃ X, w1.heap.size = X := ⟨_, rfl⟩
  generalize (w1.alloc (.cells sty0.cells 54)) = w2 at NX MR BW ⊢
  obtain ⟨R, hR⟩ : ∃ R, w.heap.size = R := ⟨_, rfl⟩
  have HR := Aside0.mk hR
  rw [hX] at NX hsz
  rw [hR] at MR hsz
  rw [hX, hR]
  have hXR : X ≠ R := by omega
  have hRX : R ≠ X := by omega
  clear hX hR B1
  go_upto_region 23 with (go_at_call 37; refine (style8 _).mono ?_; rintro e w3 ⟨rfl, b3⟩; unfold sty8 Sty.cells; have N3 := blk_below NX.out b3; have HN3 := Aside0.mk N3; have M3 := Aside0.mk (blk_below MR.out b3); have B3 := Aside0.mk b3; have c0 : w3.cell? ⟨X, 0, none⟩ = some (.int .i64 sty0.fmt) := (by rw [blk_cell N3]; rfl); have c1 : w3.cell? ⟨X, 1, none⟩ = some (.string sty0.single) := (by rw [blk_cell N3]; rfl); have c2 : w3.cell? ⟨X, 2, none⟩ = some (.string sty0.top) := (by rw [blk_cell N3]; rfl); have c3 : w3.cell? ⟨X, 3, none⟩ = some (.string sty0.first) := (by rw [blk_cell N3]; rfl); have c4 : w3.cell? ⟨X, 4, none⟩ = some (.string sty0.middle) := (by rw [blk_cell N3]; rfl); have c5 : w3.cell? ⟨X, 5, none⟩ = some (.string sty0.vert) := (by rw [blk_cell N3]; rfl); have c6 : w3.cell? ⟨X, 6, none⟩ = some (.string sty0.bottom) := (by rw [blk_cell N3]; rfl); have c7 : w3.cell? ⟨X, 7, none⟩ = some (.string sty0.newline) := (by rw [blk_cell N3]; rfl); have c8 : w3.cell? ⟨X, 8, none⟩ = some (.string sty0.pre) := (by rw [blk_cell N3]; rfl); have c9 : w3.cell? ⟨X, 9, none⟩ = some (.string sty0.name) := (by rw [blk_cell N3]; rfl); have f0 : w3.frozen? ⟨X, 0, none⟩ = false := blk_frozen N3 0; have f1 : w3.frozen? ⟨X, 1, none⟩ = false := blk_frozen N3 1; have f2 : w3.frozen? ⟨X, 2, none⟩ = false := blk_frozen N3 2; have f3 : w3.frozen? ⟨X, 3, none⟩ = false := blk_frozen N3 3; have f4 : w3.frozen? ⟨X, 4, none⟩ = false := blk_frozen N3 4; have f5 : w3.frozen? ⟨X, 5, none⟩ = false := blk_frozen N3 5; have f6 : w3.frozen? ⟨X, 6, none⟩ = false := blk_frozen N3 6; have f7 : w3.frozen? ⟨X, 7, none⟩ = false := blk_frozen N3 7; have f8 : w3.frozen? ⟨X, 8, none⟩ = false := blk_frozen N3 8; have f9 : w3.frozen? ⟨X, 9, none⟩ = false := blk_frozen N3 9; clear b3 N3)
  have N4 := Aside0.mk (setSty_blk HN3.out sty8)
  have M4 := Aside0.mk (setSty_far M3.out hRX sty8)
  have hXw : w.heap.size ≤ X := by have h := HR.out; omega
  have hRw : w.heap.size ≤ R := by have h := HR.out; omega
  have BB : Below w.heap.size w w3 := BW.out.trans (B3.out.mono BW.out.size)
  have B4 := Aside0.mk (setSty_below BB hXw sty8)
  clear BB
  change Code.wp _ _ _ _ (setSty w3 X sty8)
  generalize setSty w3 X sty8 = w4 at N4 M4 B4 ⊢
  clear c0 f0 c1 f1 c2 f2 c3 f3 c4 f4 c5 f5 c6 f6 c7 f7 c8 f8 c9 f9 HN3 M3 B3 BW NX MR
  have x0 : w4.cell? ⟨X, 0, none⟩ = some (.int .i64 sty8.fmt) := (by rw [blk_cell N4.out]; rfl); have x1 : w4.cell? ⟨X, 1, none⟩ = some (.string sty8.single) := (by rw [blk_cell N4.out]; rfl); have x2 : w4.cell? ⟨X, 2, none⟩ = some (.string sty8.top) := (by rw [blk_cell N4.out]; rfl); have x3 : w4.cell? ⟨X, 3, none⟩ = some (.string sty8.first) := (by rw [blk_cell N4.out]; rfl); have x4 : w4.cell? ⟨X, 4, none⟩ = some (.string sty8.middle) := (by rw [blk_cell N4.out]; rfl); have x5 : w4.cell? ⟨X, 5, none⟩ = some (.string sty8.vert) := (by rw [blk_cell N4.out]; rfl); have x6 : w4.cell? ⟨X, 6, none⟩ = some (.string sty8.bottom) := (by rw [blk_cell N4.out]; rfl); have x7 : w4.cell? ⟨X, 7, none⟩ = some (.string sty8.newline) := (by rw [blk_cell N4.out]; rfl); have x8 : w4.cell? ⟨X, 8, none⟩ = some (.string sty8.pre) := (by rw [blk_cell N4.out]; rfl)
  have r0 : w4.cell? ⟨R, 0, none⟩ = some (.int .i64 0) := (by rw [blk_cell M4.out]; rfl); have g0 : w4.frozen? ⟨R, 0, none⟩ = false := blk_frozen M4.out 0; have r1 : w4.cell? ⟨R, 1, none⟩ = some (.string ⟨#[]⟩) := (by rw [blk_cell M4.out]; rfl); have g1 : w4.frozen? ⟨R, 1, none⟩ = false := blk_frozen M4.out 1; have r2 : w4.cell? ⟨R, 2, none⟩ = some (.string ⟨#[]⟩) := (by rw [blk_cell M4.out]; rfl); have g2 : w4.frozen? ⟨R, 2, none⟩ = false := blk_frozen M4.out 2; have r3 : w4.cell? ⟨R, 3, none⟩ = some (.string ⟨#[]⟩) := (by rw [blk_cell M4.out]; rfl); have g3 : w4.frozen? ⟨R, 3, none⟩ = false := blk_frozen M4.out 3; have r4 : w4.cell? ⟨R, 4, none⟩ = some (.string ⟨#[]⟩) := (by rw [blk_cell M4.out]; rfl); have g4 : w4.frozen? ⟨R, 4, none⟩ = false := blk_frozen M4.out 4; have r5 : w4.cell? ⟨R, 5, none⟩ = some (.string ⟨#[]⟩) := (by rw [blk_cell M4.out]; rfl); have g5 : w4.frozen? ⟨R, 5, none⟩ = false := blk_frozen M4.out 5; have r6 : w4.cell? ⟨R, 6, none⟩ = some (.string ⟨#[]⟩) := (by rw [blk_cell M4.out]; rfl); have g6 : w4.frozen? ⟨R, 6, none⟩ = false := blk_frozen M4.out 6; have r7 : w4.cell? ⟨R, 7, none⟩ = some (.string ⟨#[]⟩) := (by rw [blk_cell M4.out]; rfl); have g7 : w4.frozen? ⟨R, 7, none⟩ = false := blk_frozen M4.out 7; have r8 : w4.cell? ⟨R, 8, none⟩ = some (.string ⟨#[]⟩) := (by rw [blk_cell M4.out]; rfl); have g8 : w4.frozen? ⟨R, 8, none⟩ = false := blk_frozen M4.out 8
  go_cut [] (fun wc => Aside0 (wc.heap[R]? = some (.cells #[.int .i64 sty8.fmt, .string sty8.single, .string sty8.top, .string sty8.first, .string sty8.middle, .string sty8.vert, .string sty8.bottom, .string sty8.newline, .string sty8.pre] 24 (0, 0))) ∧ Aside0 (Below w.heap.size w wc))
  case first =>
    go_wp2_with fail
    go_meet
    case rel => exact ⟨⟨setSty9_blk M4.out sty8⟩, ⟨setSty9_below B4.out hRw sty8⟩⟩
  case rest =>
    obtain ⟨hR5, hB5⟩ := hcut
    clear x0 x1 x2 x3 x4 x5 x6 x7 x8 r0 r1 r2 r3 r4 r5 r6 r7 r8 g0 g1 g2 g3 g4 g5 g6 g7 g8
    have y0 : wc.cell? ⟨R, 0, none⟩ = some (.int .i64 sty8.fmt) := (by rw [blk_cell hR5.out]; rfl); have y1 : wc.cell? ⟨R, 1, none⟩ = some (.string sty8.single) := (by rw [blk_cell hR5.out]; rfl); have y2 : wc.cell? ⟨R, 2, none⟩ = some (.string sty8.top) := (by rw [blk_cell hR5.out]; rfl); have y3 : wc.cell? ⟨R, 3, none⟩ = some (.string sty8.first) := (by rw [blk_cell hR5.out]; rfl); have y4 : wc.cell? ⟨R, 4, none⟩ = some (.string sty8.middle) := (by rw [blk_cell hR5.out]; rfl); have y5 : wc.cell? ⟨R, 5, none⟩ = some (.string sty8.vert) := (by rw [blk_cell hR5.out]; rfl); have y6 : wc.cell? ⟨R, 6, none⟩ = some (.string sty8.bottom) := (by rw [blk_cell hR5.out]; rfl); have y7 : wc.cell? ⟨R, 7, none⟩ = some (.string sty8.newline) := (by rw [blk_cell hR5.out]; rfl); have y8 : wc.cell? ⟨R, 8, none⟩ = some (.string sty8.pre) := (by rw [blk_cell hR5.out]; rfl)
    go_wp2
    exact bodyPost_ret (v := .agg #[.int .i64 sty8.fmt, .string sty8.single, .string sty8.top, .string sty8.first, .string sty8.middle, .string sty8.vert, .string sty8.bottom, .string sty8.newline, .string sty8.pre]) (by simp [results, Tryd.results19, go_sem, y0, y1, y2, y3, y4, y5, y6, y7, y8]) rfl ⟨rfl, hB5.out⟩

set_option maxHeartbeats 8000000 in
set_option maxRecDepth 100000 in
theorem named9 (w : World) : Calls Tryd.prog 19 #[.int .i64 9] w fun e w' => e = .returned (.agg #[.int .i64 sty9.fmt, .string sty9.single, .string sty9.top, .string sty9.first, .string sty9.middle, .string sty9.vert, .string sty9.bottom, .string sty9.newline, .string sty9.pre]) ∧ Below w.heap.size w w' := by
  go_enter Tryd.func19, Tryd.ntmps19
  go_upto_region 20 with (go_at_call 29; refine (style0 _).mono ?_; rintro e w1 ⟨rfl, b1⟩; have B1 := Aside0.mk b1; clear b1; unfold sty0 Sty.cells)
  have NX := Aside0.mk (blk_new w1 (.cells sty0.cells 54))
  have MR := Aside0.mk (blk_alloc (blk_below (blk_new w (.cells #[.int .i64 0, .string ⟨#[]⟩, .string ⟨#[]⟩, .string ⟨#[]⟩, .string ⟨#[]⟩, .string ⟨#[]⟩, .string ⟨#[]⟩, .string ⟨#[]⟩, .string ⟨#[]⟩] 24)) B1.out) (.cells sty0.cells 54))
  have BW := Aside0.mk (below_alloc ((below_alloc (Below.refl w.heap.size w) (.cells #[.int .i64 0, .string ⟨#[]⟩, .string ⟨#[]⟩, .string ⟨#[]⟩, .string ⟨#[]⟩, .string ⟨#[]⟩, .string ⟨#[]⟩, .string ⟨#[]⟩, .string ⟨#[]⟩] 24)).trans (B1.out.mono (by simp))) (.cells sty0.cells 54))
  have hsz := B1.out.size
  rw [show (w.alloc (.cells #[.int .i64 0, .string ⟨#[]⟩, .string ⟨#[]⟩, .string ⟨#[]⟩, .string ⟨#[]⟩, .string ⟨#[]⟩, .string ⟨#[]⟩, .string ⟨#[]⟩, .string ⟨#[]⟩] 24)).heap.size = w.heap.size + 1 by simp] at hsz
  change Code.wp _ _ _ _ (w1.alloc (.cells sty0.cells 54))
  obtain ⟨X, hX⟩ : ∃ X, w1.heap.size = X := ⟨_, rfl⟩
  generalize (w1.alloc (.cells sty0.cells 54)) = w2 at NX MR BW ⊢
  obtain ⟨R, hR⟩ : ∃ R, w.heap.size = R := ⟨_, rfl⟩
  have HR := Aside0.mk hR
  rw [hX] at NX hsz
  rw [hR] at MR hsz
  rw [hX, hR]
  have hXR : X ≠ R := by omega
  have hRX : R ≠ X := by omega
  clear hX hR B1
  go_upto_region 23 with (go_at_call 38; refine (style9 _).mono ?_; rintro e w3 ⟨rfl, b3⟩; unfold sty9 Sty.cells; have N3 := blk_below NX.out b3; have HN3 := Aside0.mk N3; have M3 := Aside0.mk (blk_below MR.out b3); have B3 := Aside0.mk b3; have c0 : w3.cell? ⟨X, 0, none⟩ = some (.int .i64 sty0.fmt) := (by rw [blk_cell N3]; rfl); have c1 : w3.cell? ⟨X, 1, none⟩ = some (.string sty0.single) := (by rw [blk_cell N3]; rfl); have c2 : w3.cell? ⟨X, 2, none⟩ = some (.string sty0.top) := (by rw [blk_cell N3]; rfl); have c3 : w3.cell? ⟨X, 3, none⟩ = some (.string sty0.first) := (by rw [blk_cell N3]; rfl); have c4 : w3.cell? ⟨X, 4, none⟩ = some (.string sty0.middle) := (by rw [blk_cell N3]; rfl); have c5 : w3.cell? ⟨X, 5, none⟩ = some (.string sty0.vert) := (by rw [blk_cell N3]; rfl); have c6 : w3.cell? ⟨X, 6, none⟩ = some (.string sty0.bottom) := (by rw [blk_cell N3]; rfl); have c7 : w3.cell? ⟨X, 7, none⟩ = some (.string sty0.newline) := (by rw [blk_cell N3]; rfl); have c8 : w3.cell? ⟨X, 8, none⟩ = some (.string sty0.pre) := (by rw [blk_cell N3]; rfl); have c9 : w3.cell? ⟨X, 9, none⟩ = some (.string sty0.name) := (by rw [blk_cell N3]; rfl); have f0 : w3.frozen? ⟨X, 0, none⟩ = false := blk_frozen N3 0; have f1 : w3.frozen? ⟨X, 1, none⟩ = false := blk_frozen N3 1; have f2 : w3.frozen? ⟨X, 2, none⟩ = false := blk_frozen N3 2; have f3 : w3.frozen? ⟨X, 3, none⟩ = false := blk_frozen N3 3; have f4 : w3.frozen? ⟨X, 4, none⟩ = false := blk_frozen N3 4; have f5 : w3.frozen? ⟨X, 5, none⟩ = false := blk_frozen N3 5; have f6 : w3.frozen? ⟨X, 6, none⟩ = false := blk_frozen N3 6; have f7 : w3.frozen? ⟨X, 7, none⟩ = false := blk_frozen N3 7; have f8 : w3.frozen? ⟨X, 8, none⟩ = false := blk_frozen N3 8; have f9 : w3.frozen? ⟨X, 9, none⟩ = false := blk_frozen N3 9; clear b3 N3)
  have N4 := Aside0.mk (setSty_blk HN3.out sty9)
  have M4 := Aside0.mk (setSty_far M3.out hRX sty9)
  have hXw : w.heap.size ≤ X := by have h := HR.out; omega
  have hRw : w.heap.size ≤ R := by have h := HR.out; omega
  have BB : Below w.heap.size w w3 := BW.out.trans (B3.out.mono BW.out.size)
  have B4 := Aside0.mk (setSty_below BB hXw sty9)
  clear BB
  change Code.wp _ _ _ _ (setSty w3 X sty9)
  generalize setSty w3 X sty9 = w4 at N4 M4 B4 ⊢
  clear c0 f0 c1 f1 c2 f2 c3 f3 c4 f4 c5 f5 c6 f6 c7 f7 c8 f8 c9 f9 HN3 M3 B3 BW NX MR
  have x0 : w4.cell? ⟨X, 0, none⟩ = some (.int .i64 sty9.fmt) := (by rw [blk_cell N4.out]; rfl); have x1 : w4.cell? ⟨X, 1, none⟩ = some (.string sty9.single) := (by rw [blk_cell N4.out]; rfl); have x2 : w4.cell? ⟨X, 2, none⟩ = some (.string sty9.top) := (by rw [blk_cell N4.out]; rfl); have x3 : w4.cell? ⟨X, 3, none⟩ = some (.string sty9.first) := (by rw [blk_cell N4.out]; rfl); have x4 : w4.cell? ⟨X, 4, none⟩ = some (.string sty9.middle) := (by rw [blk_cell N4.out]; rfl); have x5 : w4.cell? ⟨X, 5, none⟩ = some (.string sty9.vert) := (by rw [blk_cell N4.out]; rfl); have x6 : w4.cell? ⟨X, 6, none⟩ = some (.string sty9.bottom) := (by rw [blk_cell N4.out]; rfl); have x7 : w4.cell? ⟨X, 7, none⟩ = some (.string sty9.newline) := (by rw [blk_cell N4.out]; rfl); have x8 : w4.cell? ⟨X, 8, none⟩ = some (.string sty9.pre) := (by rw [blk_cell N4.out]; rfl)
  have r0 : w4.cell? ⟨R, 0, none⟩ = some (.int .i64 0) := (by rw [blk_cell M4.out]; rfl); have g0 : w4.frozen? ⟨R, 0, none⟩ = false := blk_frozen M4.out 0; have r1 : w4.cell? ⟨R, 1, none⟩ = some (.string ⟨#[]⟩) := (by rw [blk_cell M4.out]; rfl); have g1 : w4.frozen? ⟨R, 1, none⟩ = false := blk_frozen M4.out 1; have r2 : w4.cell? ⟨R, 2, none⟩ = some (.string ⟨#[]⟩) := (by rw [blk_cell M4.out]; rfl); have g2 : w4.frozen? ⟨R, 2, none⟩ = false := blk_frozen M4.out 2; have r3 : w4.cell? ⟨R, 3, none⟩ = some (.string ⟨#[]⟩) := (by rw [blk_cell M4.out]; rfl); have g3 : w4.frozen? ⟨R, 3, none⟩ = false := blk_frozen M4.out 3; have r4 : w4.cell? ⟨R, 4, none⟩ = some (.string ⟨#[]⟩) := (by rw [blk_cell M4.out]; rfl); have g4 : w4.frozen? ⟨R, 4, none⟩ = false := blk_frozen M4.out 4; have r5 : w4.cell? ⟨R, 5, none⟩ = some (.string ⟨#[]⟩) := (by rw [blk_cell M4.out]; rfl); have g5 : w4.frozen? ⟨R, 5, none⟩ = false := blk_frozen M4.out 5; have r6 : w4.cell? ⟨R, 6, none⟩ = some (.string ⟨#[]⟩) := (by rw [blk_cell M4.out]; rfl); have g6 : w4.frozen? ⟨R, 6, none⟩ = false := blk_frozen M4.out 6; have r7 : w4.cell? ⟨R, 7, none⟩ = some (.string ⟨#[]⟩) := (by rw [blk_cell M4.out]; rfl); have g7 : w4.frozen? ⟨R, 7, none⟩ = false := blk_frozen M4.out 7; have r8 : w4.cell? ⟨R, 8, none⟩ = some (.string ⟨#[]⟩) := (by rw [blk_cell M4.out]; rfl); have g8 : w4.frozen? ⟨R, 8, none⟩ = false := blk_frozen M4.out 8
  go_cut [] (fun wc => Aside0 (wc.heap[R]? = some (.cells #[.int .i64 sty9.fmt, .string sty9.single, .string sty9.top, .string sty9.first, .string sty9.middle, .string sty9.vert, .string sty9.bottom, .string sty9.newline, .string sty9.pre] 24 (0, 0))) ∧ Aside0 (Below w.heap.size w wc))
  case first =>
    go_wp2_with fail
    go_meet
    case rel => exact ⟨⟨setSty9_blk M4.out sty9⟩, ⟨setSty9_below B4.out hRw sty9⟩⟩
  case rest =>
    obtain ⟨hR5, hB5⟩ := hcut
    clear x0 x1 x2 x3 x4 x5 x6 x7 x8 r0 r1 r2 r3 r4 r5 r6 r7 r8 g0 g1 g2 g3 g4 g5 g6 g7 g8
    have y0 : wc.cell? ⟨R, 0, none⟩ = some (.int .i64 sty9.fmt) := (by rw [blk_cell hR5.out]; rfl); have y1 : wc.cell? ⟨R, 1, none⟩ = some (.string sty9.single) := (by rw [blk_cell hR5.out]; rfl); have y2 : wc.cell? ⟨R, 2, none⟩ = some (.string sty9.top) := (by rw [blk_cell hR5.out]; rfl); have y3 : wc.cell? ⟨R, 3, none⟩ = some (.string sty9.first) := (by rw [blk_cell hR5.out]; rfl); have y4 : wc.cell? ⟨R, 4, none⟩ = some (.string sty9.middle) := (by rw [blk_cell hR5.out]; rfl); have y5 : wc.cell? ⟨R, 5, none⟩ = some (.string sty9.vert) := (by rw [blk_cell hR5.out]; rfl); have y6 : wc.cell? ⟨R, 6, none⟩ = some (.string sty9.bottom) := (by rw [blk_cell hR5.out]; rfl); have y7 : wc.cell? ⟨R, 7, none⟩ = some (.string sty9.newline) := (by rw [blk_cell hR5.out]; rfl); have y8 : wc.cell? ⟨R, 8, none⟩ = some (.string sty9.pre) := (by rw [blk_cell hR5.out]; rfl)
    go_wp2
    exact bodyPost_ret (v := .agg #[.int .i64 sty9.fmt, .string sty9.single, .string sty9.top, .string sty9.first, .string sty9.middle, .string sty9.vert, .string sty9.bottom, .string sty9.newline, .string sty9.pre]) (by simp [results, Tryd.results19, go_sem, y0, y1, y2, y3, y4, y5, y6, y7, y8]) rfl ⟨rfl, hB5.out⟩

set_option maxHeartbeats 8000000 in
set_option maxRecDepth 100000 in
theorem named10 (w : World) : Calls Tryd.prog 19 #[.int .i64 10] w fun e w' => e = .returned (.agg #[.int .i64 sty10.fmt, .string sty10.single, .string sty10.top, .string sty10.first, .string sty10.middle, .string sty10.vert, .string sty10.bottom, .string sty10.newline, .string sty10.pre]) ∧ Below w.heap.size w w' := by
  go_enter Tryd.func19, Tryd.ntmps19
  go_upto_region 22 with (go_at_call 29; refine (style0 _).mono ?_; rintro e w1 ⟨rfl, b1⟩; have B1 := Aside0.mk b1; clear b1; unfold sty0 Sty.cells)
  have NX := Aside0.mk (blk_new w1 (.cells sty0.cells 54))
  have MR := Aside0.mk (blk_alloc (blk_below (blk_new w (.cells #[.int .i64 0, .string ⟨#[]⟩, .string ⟨#[]⟩, .string ⟨#[]⟩, .string ⟨#[]⟩, .string ⟨#[]⟩, .string ⟨#[]⟩, .string ⟨#[]⟩, .string ⟨#[]⟩] 24)) B1.out) (.cells sty0.cells 54))
  have BW := Aside0.mk (below_alloc ((below_alloc (Below.refl w.heap.size w) (.cells #[.int .i64 0, .string ⟨#[]⟩, .string ⟨#[]⟩, .string ⟨#[]⟩, .string ⟨#[]⟩, .string ⟨#[]⟩, .string ⟨#[]⟩, .string ⟨#[]⟩, .string ⟨#[]⟩] 24)).trans (B1.out.mono (by simp))) (.cells sty0.cells 54))
  have hsz := B1.out.size
  rw [show (w.alloc (.cells #[.int .i64 0, .string ⟨#[]⟩, .string ⟨#[]⟩, .string ⟨#[]⟩, .string ⟨#[]⟩, .string ⟨#[]⟩, .string ⟨#[]⟩, .string ⟨#[]⟩, .string ⟨#[]⟩] 24)).heap.size = w.heap.size + 1 by simp] at hsz
  change Code.wp _ _ _ _ (w1.alloc (.cells sty0.cells 54))
  obtain ⟨X, hX⟩ : ∃ X, w1.heap.size = X := ⟨_, rfl⟩
  generalize (w1.alloc (.cells sty0.cells 54)) = w2 at NX MR BW ⊢
  obtain ⟨R, hR⟩ : ∃ R, w.heap.size = R := ⟨_, rfl⟩
  have HR := Aside0.mk hR
  rw [hX] at NX hsz
  rw [hR] at MR hsz
  rw [hX, hR]
  have hXR : X ≠ R := by omega
  have hRX : R ≠ X := by omega
  clear hX hR B1
  go_upto_region 23 with (go_at_call 39; refine (style10 _).mono ?_; rintro e w3 ⟨rfl, b3⟩; unfold sty10 Sty.cells; have N3 := blk_below NX.out b3; have HN3 := Aside0.mk N3; have M3 := Aside0.mk (blk_below MR.out b3); have B3 := Aside0.mk b3; have c0 : w3.cell? ⟨X, 0, none⟩ = some (.int .i64 sty0.fmt) := (by rw [blk_cell N3]; rfl); have c1 : w3.cell? ⟨X, 1, none⟩ = some (.string sty0.single) := (by rw [blk_cell N3]; rfl); have c2 : w3.cell? ⟨X, 2, none⟩ = some (.string sty0.top) := (by rw [blk_cell N3]; rfl); have c3 : w3.cell? ⟨X, 3, none⟩ = some (.string sty0.first) := (by rw [blk_cell N3]; rfl); have c4 : w3.cell? ⟨X, 4, none⟩ = some (.string sty0.middle) := (by rw [blk_cell N3]; rfl); have c5 : w3.cell? ⟨X, 5, none⟩ = some (.string sty0.vert) := (by rw [blk_cell N3]; rfl); have c6 : w3.cell? ⟨X, 6, none⟩ = some (.string sty0.bottom) := (by rw [blk_cell N3]; rfl); have c7 : w3.cell? ⟨X, 7, none⟩ = some (.string sty0.newline) := (by rw [blk_cell N3]; rfl); have c8 : w3.cell? ⟨X, 8, none⟩ = some (.string sty0.pre) := (by rw [blk_cell N3]; rfl); have c9 : w3.cell? ⟨X, 9, none⟩ = some (.string sty0.name) := (by rw [blk_cell N3]; rfl); have f0 : w3.frozen? ⟨X, 0, none⟩ = false := blk_frozen N3 0; have f1 : w3.frozen? ⟨X, 1, none⟩ = false := blk_frozen N3 1; have f2 : w3.frozen? ⟨X, 2, none⟩ = false := blk_frozen N3 2; have f3 : w3.frozen? ⟨X, 3, none⟩ = false := blk_frozen N3 3; have f4 : w3.frozen? ⟨X, 4, none⟩ = false := blk_frozen N3 4; have f5 : w3.frozen? ⟨X, 5, none⟩ = false := blk_frozen N3 5; have f6 : w3.frozen? ⟨X, 6, none⟩ = false := blk_frozen N3 6; have f7 : w3.frozen? ⟨X, 7, none⟩ = false := blk_frozen N3 7; have f8 : w3.frozen? ⟨X, 8, none⟩ = false := blk_frozen N3 8; have f9 : w3.frozen? ⟨X, 9, none⟩ = false := blk_frozen N3 9; clear b3 N3)
  have N4 := Aside0.mk (setSty_blk HN3.out sty10)
  have M4 := Aside0.mk (setSty_far M3.out hRX sty10)
  have hXw : w.heap.size ≤ X := by have h := HR.out; omega
  have hRw : w.heap.size ≤ R := by have h := HR.out; omega
  have BB : Below w.heap.size w w3 := BW.out.trans (B3.out.mono BW.out.size)
  have B4 := Aside0.mk (setSty_below BB hXw sty10)
  clear BB
  change Code.wp _ _ _ _ (setSty w3 X sty10)
  generalize setSty w3 X sty10 = w4 at N4 M4 B4 ⊢
  clear c0 f0 c1 f1 c2 f2 c3 f3 c4 f4 c5 f5 c6 f6 c7 f7 c8 f8 c9 f9 HN3 M3 B3 BW NX MR
  have x0 : w4.cell? ⟨X, 0, none⟩ = some (.int .i64 sty10.fmt) := (by rw [blk_cell N4.out]; rfl); have x1 : w4.cell? ⟨X, 1, none⟩ = some (.string sty10.single) := (by rw [blk_cell N4.out]; rfl); have x2 : w4.cell? ⟨X, 2, none⟩ = some (.string sty10.top) := (by rw [blk_cell N4.out]; rfl); have x3 : w4.cell? ⟨X, 3, none⟩ = some (.string sty10.first) := (by rw [blk_cell N4.out]; rfl); have x4 : w4.cell? ⟨X, 4, none⟩ = some (.string sty10.middle) := (by rw [blk_cell N4.out]; rfl); have x5 : w4.cell? ⟨X, 5, none⟩ = some (.string sty10.vert) := (by rw [blk_cell N4.out]; rfl); have x6 : w4.cell? ⟨X, 6, none⟩ = some (.string sty10.bottom) := (by rw [blk_cell N4.out]; rfl); have x7 : w4.cell? ⟨X, 7, none⟩ = some (.string sty10.newline) := (by rw [blk_cell N4.out]; rfl); have x8 : w4.cell? ⟨X, 8, none⟩ = some (.string sty10.pre) := (by rw [blk_cell N4.out]; rfl)
  have r0 : w4.cell? ⟨R, 0, none⟩ = some (.int .i64 0) := (by rw [blk_cell M4.out]; rfl); have g0 : w4.frozen? ⟨R, 0, none⟩ = false := blk_frozen M4.out 0; have r1 : w4.cell? ⟨R, 1, none⟩ = some (.string ⟨#[]⟩) := (by rw [blk_cell M4.out]; rfl); have g1 : w4.frozen? ⟨R, 1, none⟩ = false := blk_frozen M4.out 1; have r2 : w4.cell? ⟨R, 2, none⟩ = some (.string ⟨#[]⟩) := (by rw [blk_cell M4.out]; rfl); have g2 : w4.frozen? ⟨R, 2, none⟩ = false := blk_frozen M4.out 2; have r3 : w4.cell? ⟨R, 3, none⟩ = some (.string ⟨#[]⟩) := (by rw [blk_cell M4.out]; rfl); have g3 : w4.frozen? ⟨R, 3, none⟩ = false := blk_frozen M4.out 3; have r4 : w4.cell? ⟨R, 4, none⟩ = some (.string ⟨#[]⟩) := (by rw [blk_cell M4.out]; rfl); have g4 : w4.frozen? ⟨R, 4, none⟩ = false := blk_frozen M4.out 4; have r5 : w4.cell? ⟨R, 5, none⟩ = some (.string ⟨#[]⟩) := (by rw [blk_cell M4.out]; rfl); have g5 : w4.frozen? ⟨R, 5, none⟩ = false := blk_frozen M4.out 5; have r6 : w4.cell? ⟨R, 6, none⟩ = some (.string ⟨#[]⟩) := (by rw [blk_cell M4.out]; rfl); have g6 : w4.frozen? ⟨R, 6, none⟩ = false := blk_frozen M4.out 6; have r7 : w4.cell? ⟨R, 7, none⟩ = some (.string ⟨#[]⟩) := (by rw [blk_cell M4.out]; rfl); have g7 : w4.frozen? ⟨R, 7, none⟩ = false := blk_frozen M4.out 7; have r8 : w4.cell? ⟨R, 8, none⟩ = some (.string ⟨#[]⟩) := (by rw [blk_cell M4.out]; rfl); have g8 : w4.frozen? ⟨R, 8, none⟩ = false := blk_frozen M4.out 8
  go_cut [] (fun wc => Aside0 (wc.heap[R]? = some (.cells #[.int .i64 sty10.fmt, .string sty10.single, .string sty10.top, .string sty10.first, .string sty10.middle, .string sty10.vert, .string sty10.bottom, .string sty10.newline, .string sty10.pre] 24 (0, 0))) ∧ Aside0 (Below w.heap.size w wc))
  case first =>
    go_wp2_with fail
    go_meet
    case rel => exact ⟨⟨setSty9_blk M4.out sty10⟩, ⟨setSty9_below B4.out hRw sty10⟩⟩
  case rest =>
    obtain ⟨hR5, hB5⟩ := hcut
    clear x0 x1 x2 x3 x4 x5 x6 x7 x8 r0 r1 r2 r3 r4 r5 r6 r7 r8 g0 g1 g2 g3 g4 g5 g6 g7 g8
    have y0 : wc.cell? ⟨R, 0, none⟩ = some (.int .i64 sty10.fmt) := (by rw [blk_cell hR5.out]; rfl); have y1 : wc.cell? ⟨R, 1, none⟩ = some (.string sty10.single) := (by rw [blk_cell hR5.out]; rfl); have y2 : wc.cell? ⟨R, 2, none⟩ = some (.string sty10.top) := (by rw [blk_cell hR5.out]; rfl); have y3 : wc.cell? ⟨R, 3, none⟩ = some (.string sty10.first) := (by rw [blk_cell hR5.out]; rfl); have y4 : wc.cell? ⟨R, 4, none⟩ = some (.string sty10.middle) := (by rw [blk_cell hR5.out]; rfl); have y5 : wc.cell? ⟨R, 5, none⟩ = some (.string sty10.vert) := (by rw [blk_cell hR5.out]; rfl); have y6 : wc.cell? ⟨R, 6, none⟩ = some (.string sty10.bottom) := (by rw [blk_cell hR5.out]; rfl); have y7 : wc.cell? ⟨R, 7, none⟩ = some (.string sty10.newline) := (by rw [blk_cell hR5.out]; rfl); have y8 : wc.cell? ⟨R, 8, none⟩ = some (.string sty10.pre) := (by rw [blk_cell hR5.out]; rfl)
    go_wp2
    exact bodyPost_ret (v := .agg #[.int .i64 sty10.fmt, .string sty10.single, .string sty10.top, .string sty10.first, .string sty10.middle, .string sty10.vert, .string sty10.bottom, .string sty10.newline, .string sty10.pre]) (by simp [results, Tryd.results19, go_sem, y0, y1, y2, y3, y4, y5, y6, y7, y8]) rfl ⟨rfl, hB5.out⟩

def impl_ListNamed.f (n : Int) : Option (Int × ByteArray × ByteArray × ByteArray × ByteArray × ByteArray × ByteArray × ByteArray × ByteArray) :=
  if n = 0 then some (sty0.fmt, sty0.single, sty0.top, sty0.first, sty0.middle, sty0.vert, sty0.bottom, sty0.newline, sty0.pre) else if n = 1 then some (sty1.fmt, sty1.single, sty1.top, sty1.first, sty1.middle, sty1.vert, sty1.bottom, sty1.newline, sty1.pre) else if n = 2 then some (sty2.fmt, sty2.single, sty2.top, sty2.first, sty2.middle, sty2.vert, sty2.bottom, sty2.newline, sty2.pre) else if n = 3 then some (sty3.fmt, sty3.single, sty3.top, sty3.first, sty3.middle, sty3.vert, sty3.bottom, sty3.newline, sty3.pre) else if n = 4 then some (sty4.fmt, sty4.single, sty4.top, sty4.first, sty4.middle, sty4.vert, sty4.bottom, sty4.newline, sty4.pre) else if n = 5 then some (sty5.fmt, sty5.single, sty5.top, sty5.first, sty5.middle, sty5.vert, sty5.bottom, sty5.newline, sty5.pre) else if n = 6 then some (sty6.fmt, sty6.single, sty6.top, sty6.first, sty6.middle, sty6.vert, sty6.bottom, sty6.newline, sty6.pre) else if n = 7 then some (sty7.fmt, sty7.single, sty7.top, sty7.first, sty7.middle, sty7.vert, sty7.bottom, sty7.newline, sty7.pre) else if n = 8 then some (sty8.fmt, sty8.single, sty8.top, sty8.first, sty8.middle, sty8.vert, sty8.bottom, sty8.newline, sty8.pre) else if n = 9 then some (sty9.fmt, sty9.single, sty9.top, sty9.first, sty9.middle, sty9.vert, sty9.bottom, sty9.newline, sty9.pre) else if n = 10 then some (sty10.fmt, sty10.single, sty10.top, sty10.first, sty10.middle, sty10.vert, sty10.bottom, sty10.newline, sty10.pre) else none
theorem impl_ListNamed.calls (a0 : Int) (r1 : Int) (r2 : ByteArray) (r3 : ByteArray) (r4 : ByteArray) (r5 : ByteArray) (r6 : ByteArray) (r7 : ByteArray) (r8 : ByteArray) (r9 : ByteArray) (w : World) (h : impl_ListNamed.f a0 = some (r1, r2, r3, r4, r5, r6, r7, r8, r9)) :
    Calls Tryd.prog 19 #[.int .i64 a0] w fun e w' => e = .returned (.agg #[.int .i64 r1, .string r2, .string r3, .string r4, .string r5, .string r6, .string r7, .string r8, .string r9]) ∧ Below w.heap.size w w' := by
  unfold impl_ListNamed.f at h
  by_cases c0 : a0 = 0
  · rw [if_pos c0] at h
    have h := Option.some.inj h
    simp only [Prod.mk.injEq] at h
    obtain ⟨rfl, rfl, rfl, rfl, rfl, rfl, rfl, rfl, rfl⟩ := h
    subst c0
    exact named0 w
  rw [if_neg c0] at h
  by_cases c1 : a0 = 1
  · rw [if_pos c1] at h
    have h := Option.some.inj h
    simp only [Prod.mk.injEq] at h
    obtain ⟨rfl, rfl, rfl, rfl, rfl, rfl, rfl, rfl, rfl⟩ := h
    subst c1
    exact named1 w
  rw [if_neg c1] at h
  by_cases c2 : a0 = 2
  · rw [if_pos c2] at h
    have h := Option.some.inj h
    simp only [Prod.mk.injEq] at h
    obtain ⟨rfl, rfl, rfl, rfl, rfl, rfl, rfl, rfl, rfl⟩ := h
    subst c2
    exact named2 w
  rw [if_neg c2] at h
  by_cases c3 : a0 = 3
  · rw [if_pos c3] at h
    have h := Option.some.inj h
    simp only [Prod.mk.injEq] at h
    obtain ⟨rfl, rfl, rfl, rfl, rfl, rfl, rfl, rfl, rfl⟩ := h
    subst c3
    exact named3 w
  rw [if_neg c3] at h
  by_cases c4 : a0 = 4
  · rw [if_pos c4] at h
    have h := Option.some.inj h
    simp only [Prod.mk.injEq] at h
    obtain ⟨rfl, rfl, rfl, rfl, rfl, rfl, rfl, rfl, rfl⟩ := h
    subst c4
    exact named4 w
  rw [if_neg c4] at h
  by_cases c5 : a0 = 5
  · rw [if_pos c5] at h
    have h := Option.some.inj h
    simp only [Prod.mk.injEq] at h
    obtain ⟨rfl, rfl, rfl, rfl, rfl, rfl, rfl, rfl, rfl⟩ := h
    subst c5
    exact named5 w
  rw [if_neg c5] at h
  by_cases c6 : a0 = 6
  · rw [if_pos c6] at h
    have h := Option.some.inj h
    simp only [Prod.mk.injEq] at h
    obtain ⟨rfl, rfl, rfl, rfl, rfl, rfl, rfl, rfl, rfl⟩ := h
    subst c6
    exact named6 w
  rw [if_neg c6] at h
  by_cases c7 : a0 = 7
  · rw [if_pos c7] at h
    have h := Option.some.inj h
    simp only [Prod.mk.injEq] at h
    obtain ⟨rfl, rfl, rfl, rfl, rfl, rfl, rfl, rfl, rfl⟩ := h
    subst c7
    exact named7 w
  rw [if_neg c7] at h
  by_cases c8 : a0 = 8
  · rw [if_pos c8] at h
    have h := Option.some.inj h
    simp only [Prod.mk.injEq] at h
    obtain ⟨rfl, rfl, rfl, rfl, rfl, rfl, rfl, rfl, rfl⟩ := h
    subst c8
    exact named8 w
  rw [if_neg c8] at h
  by_cases c9 : a0 = 9
  · rw [if_pos c9] at h
    have h := Option.some.inj h
    simp only [Prod.mk.injEq] at h
    obtain ⟨rfl, rfl, rfl, rfl, rfl, rfl, rfl, rfl, rfl⟩ := h
    subst c9
    exact named9 w
  rw [if_neg c9] at h
  by_cases c10 : a0 = 10
  · rw [if_pos c10] at h
    have h := Option.some.inj h
    simp only [Prod.mk.injEq] at h
    obtain ⟨rfl, rfl, rfl, rfl, rfl, rfl, rfl, rfl, rfl⟩ := h
    subst c10
    exact named10 w
  rw [if_neg c10] at h
  cases h
end Go.Proofs.YtmakcmggicedfaaDoor.Hand
