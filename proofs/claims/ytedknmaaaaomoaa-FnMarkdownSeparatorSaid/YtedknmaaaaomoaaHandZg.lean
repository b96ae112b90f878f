/- What ZzGrown answers. -/
import Derived.Test.YtedknmaaaaomoaaHandSty
namespace Go.Proofs.Ytedknmaaaaomoaa.Hand
open Go.RowKit Go.Proofs.YtedknmaaaaomoaaW.PrintWords Go.Proofs.YtedknmaaaaomoaaW.PrintLast Go.Proofs.YtedknmaaaaomoaaW.PrintMore Go.Proofs.Ytedknmaaaaomoaa.Base
open Go.Maps (Keyed)
set_option linter.unusedVariables false
set_option linter.unusedSimpArgs false

theorem PadR.setT {w0 w : World} {base T S M NN G gc n : Nat} {tc st : Array Value} {cs : List (Int × Int)} {ws : List Int} (h : PadR w0 base T tc S M NN G gc st cs n w ws) (hT : base ≤ T) (j : Nat) (u : Value) : PadR (w.setCell ⟨T, j, none⟩ u) base T (tc.setIfInBounds j u) S M NN G gc st cs n (w.setCell ⟨T, j, none⟩ u) ws ∧ Below base w0 (w.setCell ⟨T, j, none⟩ u) := by
  obtain ⟨h1, h2, h3, h4, h5⟩ := h
  obtain ⟨es, ck, he⟩ := h3.blk
  exact ⟨⟨blk_put h1 j u rfl, blk_far h2 (Ne.symm (blk_ne' h1 h2 (by decide))) _, h3.kept (Below.heap_setCell w ⟨T, j, none⟩ _ M (map_ne he h1)), own_move h4 (fun k hk => Below.heap_setCell w ⟨T, j, none⟩ _ k (own_far h4 h1 (by decide) hk)), Below.refl _ _⟩, h5.setCell (p := ⟨T, j, none⟩) hT _⟩
theorem set_far {tc : Array Value} {j k : Nat} {u x : Value} (h : tc[k]? = some x) (hne : j ≠ k) : (tc.setIfInBounds j u)[k]? = some x := by
  rw [Array.getElem?_setIfInBounds, if_neg hne]
  exact h
theorem set_here {tc : Array Value} {j : Nat} {u x : Value} (h : tc[j]? = some x) : (tc.setIfInBounds j u)[j]? = some u := by
  rw [Array.getElem?_setIfInBounds, if_pos rfl, if_pos]
  rcases Nat.lt_or_ge j tc.size with h1 | h1
  · exact h1
  · rw [Array.getElem?_eq_none h1] at h; cases h

set_option maxHeartbeats 8000000 in
set_option maxRecDepth 100000 in
theorem zzGrown (A0 : Option Addr) (c0 : Nat) (ws : List Int) (A1 : Option Addr) (c1 : Nat) (cs : List (Int × Int)) (st : Array Value) (least len : Int) (w : World) (h0 : Kd.C (Kd.int .i64) w A0 ws.length ws) (h1 : kCfg.C w A1 cs.length cs) (hn : ws.length ≤ 1000000) (hcs : cs.length = ws.length)
    (s52 : st[52]? = some (.int .i64 least)) (ssz : (Try.prog.info? 65).map (·.size) = some st.size) (hl : 0 ≤ len ∧ len ≤ 1000000) (hm : 0 ≤ least ∧ least ≤ 1000000) (hw : ∀ x ∈ ws, 0 ≤ x ∧ x ≤ 1000000) :
    Calls Try.prog 13 #[.slice A0 ws.length c0, .slice A1 cs.length c1, .agg st, .int .i64 len] w fun e w' => ∃ G gc, e = .returned (.slice (some ⟨G, 0, none⟩) ws.length gc) ∧ w'.ownsRow w.heap.size 3 1 (.slice (some ⟨G, 0, none⟩) ws.length gc) ws.length ((growOut (cs.map (·.2)) (least - len).toNat ws (least - len)).map (Value.int .i64)) ∧ Below w.heap.size w w' := by
  have H0 := Aside0.mk h0
  have H1 := Aside0.mk h1
  have S52 := Aside0.mk s52
  have SSZ := Aside0.mk ssz
  have HW := Aside0.mk hw
  have HCS := Aside0.mk hcs
  clear h0 h1 s52 ssz hw hcs
  go_enter Try.func13, Try.ntmps13
  go_upto_region 1 with (fail)
  have B1 := Aside0.mk (below_alloc (Below.refl w.heap.size w) (.cells st 65))
  have X1 := Aside0.mk (blk_new w (.cells st 65))
  change Code.wp _ _ _ _ (w.alloc (.cells st 65))
  have hs1 : w.heap.size ≤ (w.alloc (.cells st 65)).heap.size := B1.out.size
  generalize (w.alloc (.cells st 65)) = w1 at B1 X1 hs1 ⊢
  go_upto_region 2 with (first
    | ((with_reducible refine gate_dst (N := 12) rfl ?_); refine wpList_load_row ?aa 65 (.tmp 6) ?bb w.heap.size ?cc 65 st (0, 0) _ X1.out Try.underlying65 ?ff SSZ.out ?hh; (case aa => rfl); (case bb => rfl); (case cc => rfl); (case ff => rfl))
    | (go_at_call 19; refine (zzColumns A0 c0 ws A1 c1 cs st w1 (Kd.C_below H0.out B1.out) (Kd.C_below H1.out B1.out) hn (by rw [HCS.out]; exact hn)).mono ?_; rintro e w2 ⟨T, tc, rfl, ⟨S, M, NN, G, gc, bT, bS, bM, bN, hT, t4, t6, t11, t14, t39, hS, hN, hG, hM⟩, t1, t2, t13, b2⟩; have HT := Aside0.mk hT; have HS := Aside0.mk hS; have HG := Aside0.mk hG; have HM := Aside0.mk hM; have HB := Aside0.mk b2; have TT := Aside0.mk (And.intro t6 (And.intro t11 (And.intro t14 (And.intro t39 t13)))); clear hT hS hN hG hM b2 t4 t6 t11 t14 t39 t1 t2 t13))
  obtain ⟨t6, t11, t14, t39, t13⟩ := TT.out
  have hw2 : w.heap.size ≤ w2.heap.size := Nat.le_trans hs1 HB.out.size
  have HR2 : Aside0 (PadR w w.heap.size T tc S M NN G gc st cs ws.length w2 ws) := ⟨HT.out, HS.out, HM.out, own_weaken HG.out hs1, B1.out.trans (HB.out.mono hs1)⟩
  have c13 : w2.cell? ⟨T, 13, none⟩ = some (.int .i64 0) := by rw [blk_cell HT.out]; exact t13
  have f13 : w2.frozen? ⟨T, 13, none⟩ = false := blk_frozen HT.out 13
  have u6 := Aside0.mk (set_far (u := .int .i64 len) t6 (show 13 ≠ 6 by decide))
  have u11 := Aside0.mk (set_far (u := .int .i64 len) t11 (show 13 ≠ 11 by decide))
  have u14 := Aside0.mk (set_far (u := .int .i64 len) t14 (show 13 ≠ 14 by decide))
  have u39 := Aside0.mk (set_far (u := .int .i64 len) t39 (show 13 ≠ 39 by decide))
  have u13 := Aside0.mk (set_here (u := .int .i64 len) t13)
  have R3 := Aside0.mk (HR2.out.setT (Nat.le_trans hs1 bT) 13 (.int .i64 len))
  clear t6 t11 t14 t39 t13
  go_upto_region 3 with (fail)
  clear c13 f13
  change Code.wp _ _ _ _ (w2.setCell ⟨T, 13, none⟩ (.int .i64 len))
  have hw3 : w.heap.size ≤ (w2.setCell ⟨T, 13, none⟩ (.int .i64 len)).heap.size := R3.out.2.size
  generalize (w2.setCell ⟨T, 13, none⟩ (.int .i64 len)) = w3 at R3 hw3 ⊢
  generalize tc.setIfInBounds 13 (.int .i64 len) = tc3 at R3 u6 u11 u14 u39 u13
  go_wp2_with (go_at_call 20; refine (padded w3 w.heap.size T tc3 S M NN G gc st cs ws least len ws.length R3.out.1 rfl HCS.out hn hw3 u6.out u11.out u13.out u14.out u39.out S52.out hl hm HW.out).mono ?_; rintro e w4 ⟨rfl, r4⟩; have R4 := Aside0.mk r4; have d11 : w4.cell? ⟨T, 11, none⟩ = some (.slice (some ⟨G, 0, none⟩) ws.length gc) := (by rw [blk_cell r4.1]; exact u11.out); clear r4)
  go_ret
  exact ⟨G, gc, rfl, R4.out.2.2.2.1, R3.out.2.trans R4.out.2.2.2.2⟩
end Go.Proofs.Ytedknmaaaaomoaa.Hand
