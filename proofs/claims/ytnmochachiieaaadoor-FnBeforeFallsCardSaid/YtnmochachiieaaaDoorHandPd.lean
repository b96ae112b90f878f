/- A decimal in memory; its noughts at the end struck. -/
import Derived.Test.YtnmochachiieaaaDoorWMore
import Derived.Test.YtnmochachiieaaaDoorBase
import Derived.Test.YtnmochachiieaaaDoorHandPf
import Derived.Lib.Builder
import Derived.Deep.RegionHeld3
import Derived.Deep.CutBlock
import Derived.StillTailTactics
import Derived.BigQuiet
import Derived.Deep.QuietTactic
namespace Go.Proofs.YtnmochachiieaaaDoor.Hand
open Go.RowKit Go.Proofs.YtnmochachiieaaaDoorW.PrintWords Go.Proofs.YtnmochachiieaaaDoor.Base
open Go.Proofs.YtnmochachiieaaaDoor.Pf
set_option linter.unusedVariables false
set_option linter.unusedSimpArgs false

theorem info5 : (Tryd.prog.info? 5).map (fun i => (i.zero, i.size, i.bytes)) = some (some (.int .u8 0), 1, 1) := by kernel_rfl
/-- Digits as the memory has them. -/
def ci (l : List Nat) : List Int := l.map fun n : Nat => (n : Int)
theorem ci_len (l : List Nat) : (ci l).length = l.length := by simp [ci]
/-- Since w0: the blocks below B stay, and of w0's blocks all but D. -/
def Kp (w0 : World) (B D : Nat) (W : World) : Prop := Below B w0 W ∧ ∀ k, k < w0.heap.size → k ≠ D → W.heap[k]? = w0.heap[k]?
theorem Kp.refl (w : World) (B D : Nat) : Kp w B D w := ⟨Below.refl _ _, fun _ _ _ => rfl⟩
theorem Kp.size {w0 W : World} {B D : Nat} (h : Kp w0 B D W) : w0.heap.size ≤ W.heap.size := h.1.size
theorem Kp.below {w0 W W' : World} {B D : Nat} (h : Kp w0 B D W) (hb : Below W.heap.size W W') (hB : B ≤ W.heap.size) : Kp w0 B D W' :=
  ⟨h.1.trans (hb.mono hB), fun k hk hD => (hb.block k (by have := h.size; omega)).trans (h.2 k hk hD)⟩
theorem Kp.setD {w0 W : World} {B D : Nat} (h : Kp w0 B D W) (hB : B ≤ D) (i : Nat) (v : Value) : Kp w0 B D (W.setCell ⟨D, i, none⟩ v) :=
  ⟨h.1.setCell (p := ⟨D, i, none⟩) hB _, fun k hk hD => (Below.heap_setCell W ⟨D, i, none⟩ v k hD).trans (h.2 k hk hD)⟩
theorem Kp.setN {w0 W : World} {B D g : Nat} (h : Kp w0 B D W) (hB : B ≤ g) (hg : w0.heap.size ≤ g) (i : Nat) (v : Value) : Kp w0 B D (W.setCell ⟨g, i, none⟩ v) :=
  ⟨h.1.setCell (p := ⟨g, i, none⟩) hB _, fun k hk hD => (Below.heap_setCell W ⟨g, i, none⟩ v k (show k ≠ g by omega)).trans (h.2 k hk hD)⟩
theorem Kp.drew {w0 W : World} {B D : Nat} (h : Kp w0 B D W) : Kp w0 B D W.drew := ⟨below_drew h.1, h.2⟩
theorem Kp.trans {w0 w1 W : World} {B D : Nat} (h : Kp w0 B D w1) (h' : Kp w1 B D W) : Kp w0 B D W :=
  ⟨h.1.trans h'.1, fun k hk hD => (h'.2 k (by have := h.size; omega) hD).trans (h.2 k hk hD)⟩
/-- The decimal at D: its digits' row lies apart; made since w0, whose blocks below B stay. -/
def DecAt (w0 : World) (B : Nat) (W : World) (D : Nat) (v : Value) (l : List Nat) (dp : Int) : Prop :=
  W.heap[D]? = some (.cells #[v, .int .i64 dp] 75 (0, 0)) ∧ (Kd.int .u8).R 5 W B (fun k => k ≠ D) v (ci l) ∧ Kp w0 B D W ∧ B ≤ D ∧ B ≤ W.heap.size
def DecN (w0 : World) (B : Nat) (W : World) (D : Nat) (a : Dc) : Prop := ∃ v, DecAt w0 B W D v a.d a.dp
section
variable {w0 W : World} {B D : Nat} {v : Value} {l : List Nat} {dp : Int}
theorem DecAt.c0 (h : DecAt w0 B W D v l dp) : W.cell? ⟨D, 0, none⟩ = some v := by rw [blk_cell h.1]; rfl
theorem DecAt.c1 (h : DecAt w0 B W D v l dp) : W.cell? ⟨D, 1, none⟩ = some (.int .i64 dp) := by rw [blk_cell h.1]; rfl
theorem DecAt.f (h : DecAt w0 B W D v l dp) (i : Nat) : W.frozen? ⟨D, i, none⟩ = false := blk_frozen h.1 i
theorem DecAt.form (h : DecAt w0 B W D v l dp) : ∃ A c, v = .slice A l.length c ∧ l.length ≤ c := by
  obtain ⟨A, c, hv, hl, _⟩ := Kd.R_reads h.2.1
  rw [ci_len] at hv hl
  exact ⟨A, c, hv, hl⟩
theorem DecAt.below {W' : World} (h : DecAt w0 B W D v l dp) (hb : Below W.heap.size W W') : DecAt w0 B W' D v l dp :=
  ⟨blk_below h.1 hb, Kd.R_below h.2.1 hb, h.2.2.1.below hb h.2.2.2.2, h.2.2.2.1, Nat.le_trans h.2.2.2.2 hb.size⟩
theorem DecAt.drew (h : DecAt w0 B W D v l dp) : DecAt w0 B W.drew D v l dp := h.below ⟨rfl, rfl, rfl, Nat.le_refl _, fun _ _ => rfl⟩
theorem DecAt.drewN (h : DecAt w0 B W D v l dp) (n : Nat) : DecAt w0 B (W.drewN n) D v l dp := h.below (pw_below_drewN (Below.refl _ _) n)
theorem DecAt.dp1 (h : DecAt w0 B W D v l dp) (x : Int) : DecAt w0 B (W.setCell ⟨D, 1, none⟩ (.int .i64 x)) D v l x :=
  ⟨blk_put h.1 1 _ rfl, Kd.R_far (p := ⟨D, 1, none⟩) h.2.1 (fun _ hk => hk) _, h.2.2.1.setD h.2.2.2.1 1 _, h.2.2.2.1, by simpa using h.2.2.2.2⟩
/-- The same, told from here on. -/
theorem DecAt.base (h : DecAt w0 B W D v l dp) : DecAt W B W D v l dp := ⟨h.1, h.2.1, Kp.refl _ _ _, h.2.2.2.1, h.2.2.2.2⟩
/-- The same, told from further back. -/
theorem DecAt.back {w1 : World} (h : DecAt w1 B W D v l dp) (hk : Kp w0 B D w1) : DecAt w0 B W D v l dp := ⟨h.1, h.2.1, hk.trans h.2.2.1, h.2.2.2.1, h.2.2.2.2⟩
/-- Another row is stored. -/
theorem DecAt.row {v1 : Value} {l1 : List Nat} (h : DecAt w0 B W D v l dp) (hr : (Kd.int .u8).R 5 W B (fun k => k ≠ D) v1 (ci l1)) : DecAt w0 B (W.setCell ⟨D, 0, none⟩ v1) D v1 l1 dp :=
  ⟨blk_put h.1 0 _ rfl, Kd.R_far (p := ⟨D, 0, none⟩) hr (fun _ hk => hk) _, h.2.2.1.setD h.2.2.2.1 0 _, h.2.2.2.1, by simpa using h.2.2.2.2⟩
theorem ci_get {i n : Nat} (h : l[i]? = some n) : (ci l)[i]? = some (n : Int) := by simp [ci, h]
/-- A digit in its row. -/
theorem DecAt.digit {A : Option Addr} {n c i d : Nat} (h : DecAt w0 B W D (.slice A n c) l dp) (hi : l[i]? = some d) : ∃ ad, A = some ad ∧ W.cell? (ad.add i) = some (.int .u8 (d : Int)) := by
  obtain ⟨A', c', hv, hl, hC⟩ := Kd.R_reads h.2.1
  simp only [Value.slice.injEq] at hv
  obtain ⟨rfl, rfl, rfl⟩ := hv
  have hlt := (List.getElem?_eq_some_iff.1 hi).1
  obtain ⟨ad, e, hx⟩ := Kd.at_int hC (i : Int) (by omega) (by rw [ci_len]; omega)
  refine ⟨ad, e, ?_⟩
  rw [Int.toNat_natCast] at hx
  rw [hx]
  have : rd (ci l) (i : Int) = (d : Int) := by simp [rd, List.getD, ci_get hi]
  rw [this]
end
theorem ci_take (l : List Nat) (m : Nat) : ci (l.take m) = (ci l).take m := by simp [ci, List.map_take]
theorem trimL_zero (l : List Nat) : trimL (l ++ [0]) = trimL l := by unfold trimL; simp
theorem trimL_pos (l : List Nat) {t : Nat} (h : t ≠ 0) : trimL (l ++ [t]) = l ++ [t] := by
  unfold trimL
  simp [List.dropWhile_cons, h]

set_option maxHeartbeats 4000000 in
set_option maxRecDepth 100000 in
theorem trim_ (w0 w : World) (B D : Nat) (a : Dc) (H : DecN w0 B w D a) (hl : a.d.length ≤ 10000000000) :
    Calls Tryd.prog 38 #[.pointer (some ⟨D, 0, none⟩)] w fun r w' => r = .returned (.pointer (some ⟨D, 0, none⟩)) ∧ DecN w0 B w' D (trimC a) := by
  have HH := Aside0.mk H
  clear H
  go_enter Tryd.func38, Tryd.ntmps38
  go_wp2
  go_loopg [3] a.d.length (fun kq v3 w' => ∃ l : List Nat, Aside0 (l.length = kq) ∧ Aside0 (trimL l = trimL a.d) ∧ Aside0 (DecN w0 B w' D ⟨l, a.dp⟩) ∧ Aside0 (l.length ≤ 10000000000))
  case atStart => exact ⟨a.d, ⟨rfl⟩, ⟨rfl⟩, HH, ⟨hl⟩⟩
  case round =>
    clear HH
    obtain ⟨l, HLN, HT, HD, HB⟩ := hrel
    obtain ⟨v, hv⟩ := HD.out
    obtain ⟨A, c, rfl, hc⟩ := hv.form
    have D1 := Aside0.mk hv
    have c0 := hv.c0
    have c1 := hv.c1
    have f0 := hv.f 0
    have f1 := hv.f 1
    have hbl := HB.out
    rcases List.eq_nil_or_concat l with rfl | ⟨l', t, e⟩
    · clear hv HD
      have c0' : wr.cell? ⟨D, 0, none⟩ = some (.slice A 0 c) := c0
      clear c0
      have g0 : decide ((0 : Int) < ((0 : Nat) : Int)) = false := by decide
      go_upto_region 1 with (fail)
      go_quiet (fail)
      go_wp2
      go_ret
      refine ⟨rfl, ?_⟩
      have hT : trimL a.d = [] := by rw [← HT.out]; rfl
      have hz : trimC a = ⟨[], 0⟩ := by simp [trimC, hT]
      rw [hz]
      exact ⟨_, (D1.out.drewN _).dp1 0⟩
    · rw [List.concat_eq_append] at e
      subst e
      have hlen : (l' ++ [t]).length = l'.length + 1 := by simp
      have dg := hv.digit (i := l'.length) (d := t) (by simp)
      obtain ⟨ad, rfl, hcell⟩ := dg
      have c0' : wr.cell? ⟨D, 0, none⟩ = some (.slice (some ad) (l'.length + 1) c) := by rw [c0, hlen]
      rw [hlen] at hbl hc
      clear c0 hv HD
      have b3 : IntKind.i64.wrap (((l'.length + 1 : Nat) : Int) - 1) = (l'.length : Int) := by rw [Go.IntWalk.i64_in _ (by omega)]; omega
      have g0 : decide ((0 : Int) < ((l'.length + 1 : Nat) : Int)) = true := by simp
      have b1 : (0 : Int) ≤ (l'.length : Int) := by omega
      have b2 : (l'.length : Int) < ((l'.length + 1 : Nat) : Int) := by omega
      have b4 : ((l'.length : Nat) : Int).toNat = l'.length := Int.toNat_natCast _
      go_upto_region 1 with (fail)
      go_quiet (fail)
      go_wp2
      · rename_i h0
        have ht : t = 0 := by have := of_decide_eq_true h0; omega
        subst ht
        have D2 := Aside0.mk (D1.out.drewN nq)
        clear c0' f0 f1 c1 hcell D1
        generalize wr.drewN nq = w1 at D2 ⊢
        have c0 := D2.out.c0
        rw [hlen] at c0
        have f0 := D2.out.f 0
        have b5 : (l'.length : Int) ≤ (c : Int) := by omega
        go_region
        go_wp2
        go_roundg l'.length
        case measure => have := HLN.out; simp at this; omega
        case rel =>
          refine ⟨l', ⟨rfl⟩, ⟨by rw [← HT.out, trimL_zero]⟩, ⟨⟨_, (D2.out.row ?_).drew⟩⟩, ⟨by omega⟩⟩
          have hR := D2.out.2.1
          have h1 := Kd.R_take hR (m := l'.length) (by rw [ci_len]; simp)
          rw [← ci_take, List.take_left] at h1
          exact h1
      · rename_i h0 h1
        have ht : t ≠ 0 := by intro e; subst e; simp at h0
        go_ret
        refine ⟨rfl, ?_⟩
        have hT : trimL a.d = l' ++ [t] := by rw [← HT.out, trimL_pos _ ht]
        have hz : trimC a = ⟨l' ++ [t], a.dp⟩ := by simp [trimC, hT]
        rw [hz]
        exact ⟨_, D1.out.drewN _⟩
end Go.Proofs.YtnmochachiieaaaDoor.Hand
