/- A decimal in memory: its digits in a row of the call's own, and its point. -/
import Derived.Test.YtmadlpclnlbpgaaDoorHandNumeric
import Derived.Deep.RegionHeld3
namespace Go.Proofs.YtmadlpclnlbpgaaDoor.Hand
open Go.RowKit Go.Proofs.YtmadlpclnlbpgaaDoorW.PrintWords Go.Proofs.YtmadlpclnlbpgaaDoor.Base
set_option linter.unusedVariables false
set_option linter.unusedSimpArgs false

theorem info5 : (Tryd.prog.info? 5).map (fun i => (i.zero, i.size, i.bytes)) = some (some (.int .u8 0), 1, 1) := by kernel_rfl
/-- The digits' row lies apart from the decimal's own block D. -/
def DigR (B : Nat) (W : World) (D : Nat) (v : Value) (xs : List Int) : Prop := (Kd.int .u8).R 5 W B (fun k => k ≠ D) v xs
theorem DigR.nil (B : Nat) (W : World) (D : Nat) : DigR B W D (.slice none 0 0) [] := Kd.R_nil _ _ _ _ _
theorem DigR.below {B D : Nat} {W W' : World} {v : Value} {xs : List Int} (h : DigR B W D v xs) (hb : Below W.heap.size W W') : DigR B W' D v xs := Kd.R_below h hb
theorem DigR.far {B D : Nat} {W : World} {v : Value} {xs : List Int} (h : DigR B W D v xs) (i : Nat) (u : Value) : DigR B (W.setCell ⟨D, i, none⟩ u) D v xs := Kd.R_far h (fun _ hk => hk) u
theorem DigR.form {B D : Nat} {W : World} {v : Value} {xs : List Int} (h : DigR B W D v xs) : ∃ A c, v = .slice A xs.length c := by
  have ho := Kd.own_of_R h
  rcases ho.2 with ⟨hv, h0⟩ | ⟨g, cap, cur, hv, _⟩
  · exact ⟨none, 0, by rw [hv, h0]⟩
  · exact ⟨_, _, hv⟩
theorem DigR.form' {B D : Nat} {W : World} {v : Value} {xs : List Int} (h : DigR B W D v xs) : ∃ A n c, v = .slice A n c ∧ Aside0 (n = xs.length) := by
  obtain ⟨A, c, h'⟩ := h.form
  exact ⟨A, _, c, h', ⟨rfl⟩⟩
theorem DigR.ne {B D : Nat} {W : World} {v : Value} {xs : List Int} (h : DigR B W D v xs) : some D ≠ v.ownBlock := fun e => h.1 D e.symm rfl
/-- The decimal at D: made since w0, whose blocks below B stay. -/
def DecAt (w0 : World) (B : Nat) (W : World) (D : Nat) (v : Value) (xs : List Int) (dp : Int) : Prop :=
  W.heap[D]? = some (.cells #[v, .int .i64 dp] 89 (0, 0)) ∧ DigR B W D v xs ∧ Below B w0 W ∧ B ≤ D ∧ B ≤ W.heap.size
section
variable {w0 W : World} {B D : Nat} {v : Value} {xs : List Int} {dp : Int}
theorem DecAt.c0 (h : DecAt w0 B W D v xs dp) : W.cell? ⟨D, 0, none⟩ = some v := by rw [blk_cell h.1]; rfl
theorem DecAt.c1 (h : DecAt w0 B W D v xs dp) : W.cell? ⟨D, 1, none⟩ = some (.int .i64 dp) := by rw [blk_cell h.1]; rfl
theorem DecAt.f (h : DecAt w0 B W D v xs dp) (i : Nat) : W.frozen? ⟨D, i, none⟩ = false := blk_frozen h.1 i
theorem DecAt.below {W' : World} (h : DecAt w0 B W D v xs dp) (hb : Below W.heap.size W W') : DecAt w0 B W' D v xs dp :=
  ⟨blk_below h.1 hb, h.2.1.below hb, h.2.2.1.trans (hb.mono h.2.2.2.2), h.2.2.2.1, Nat.le_trans h.2.2.2.2 hb.size⟩
theorem DecAt.dp1 (h : DecAt w0 B W D v xs dp) (x : Int) : DecAt w0 B (W.setCell ⟨D, 1, none⟩ (.int .i64 x)) D v xs x :=
  ⟨blk_put h.1 1 _ rfl, h.2.1.far 1 _, h.2.2.1.setCell (p := ⟨D, 1, none⟩) h.2.2.2.1 _, h.2.2.2.1, by simpa using h.2.2.2.2⟩
/-- The row turned, then stored. -/
theorem DecAt.put {W1 : World} {v1 : Value} {ys : List Int} (h : DecAt w0 B W D v xs dp) (hg : W.grownBy W1 v.ownBlock) (hb : Below B w0 W1) (hr : DigR B W1 D v1 ys) : DecAt w0 B (W1.setCell ⟨D, 0, none⟩ v1) D v1 ys dp :=
  ⟨blk_put (blk_grown h.1 hg h.2.1.ne) 0 _ rfl, hr.far 0 _, hb.setCell (p := ⟨D, 0, none⟩) h.2.2.2.1 _, h.2.2.2.1, by have := hg.size; have := h.2.2.2.2; simp; omega⟩
end
end Go.Proofs.YtmadlpclnlbpgaaDoor.Hand
