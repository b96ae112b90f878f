/- ZzMarkdownSeparator. -/
import Derived.Test.YtedknmaaaaomoaaHandMdD
import Derived.Test.YtedknmaaaaomoaaHandZg
namespace Go.Proofs.Ytedknmaaaaomoaa.Hand
open Go.RowKit Go.Proofs.YtedknmaaaaomoaaW.PrintWords Go.Proofs.YtedknmaaaaomoaaW.PrintMore Go.Proofs.Ytedknmaaaaomoaa.Base
set_option linter.unusedVariables false
set_option linter.unusedSimpArgs false

theorem TabIn.setT {w : World} {base T : Nat} {tc : Array Value} {ws : List Int} {cs : List (Int × Int)} {st : Array Value} (h : TabIn w base T tc ws cs st) (j : Nat) (u : Value) (h4 : j ≠ 4) (h6 : j ≠ 6) (h11 : j ≠ 11) (h14 : j ≠ 14) (h39 : j ≠ 39) : TabIn (w.setCell ⟨T, j, none⟩ u) base T (tc.setIfInBounds j u) ws cs st := by
  obtain ⟨S, M, NN, G, gc, bT, bS, bM, bN, hT, t4, t6, t11, t14, t39, hS, ⟨cur, hN, hn⟩, hG, hM⟩ := h
  obtain ⟨es, ck, he⟩ := hM.blk
  exact ⟨S, M, NN, G, gc, bT, bS, bM, bN, blk_put hT j u rfl, set_far t4 h4, set_far t6 h6, set_far t11 h11, set_far t14 h14, set_far t39 h39, blk_far hS (Ne.symm (blk_ne' hT hS (by decide))) _, ⟨cur, blk_far hN (Ne.symm (blk_ne' hT hN (by decide))) _, hn⟩, own_move hG (fun k hk => Below.heap_setCell w ⟨T, j, none⟩ _ k (own_far hG hT (by decide) hk)), hM.kept (Below.heap_setCell w ⟨T, j, none⟩ _ M (map_ne he hT))⟩
theorem TabIn.below {w w' : World} {base T : Nat} {tc : Array Value} {ws : List Int} {cs : List (Int × Int)} {st : Array Value} (h : TabIn w base T tc ws cs st) (hb : Below w.heap.size w w') : TabIn w' base T tc ws cs st := by
  obtain ⟨S, M, NN, G, gc, bT, bS, bM, bN, hT, t4, t6, t11, t14, t39, hS, ⟨cur, hN, hn⟩, hG, hM⟩ := h
  exact ⟨S, M, NN, G, gc, bT, bS, bM, bN, blk_below hT hb, t4, t6, t11, t14, t39, blk_below hS hb, ⟨cur, blk_below hN hb, hn⟩, own_below hG hb, hM.below hb⟩
theorem TabIn.sep {w : World} {base T : Nat} {tc : Array Value} {ws : List Int} {cs : List (Int × Int)} {st : Array Value} {idx pad : Bool} {width b : Nat} (h : TabIn w base T tc ws cs st) (hb : w.heap.size ≤ b) (t1 : tc[1]? = some (.bool idx)) (t2 : tc[2]? = some (.int .i64 (width : Int))) (s36 : st[36]? = some (.int .i64 0)) (s43 : st[43]? = some (.bool pad)) :
    ∃ S M NN G gc, Sep b T S M NN G gc idx pad width ws cs w := by
  obtain ⟨S, M, NN, G, gc, bT, bS, bM, bN, hT, t4, t6, t11, t14, t39, hS, ⟨cur, hN, hn⟩, hG, hM⟩ := h
  obtain ⟨es, ck, he⟩ := hM.blk
  refine ⟨S, M, NN, G, gc, ?_⟩
  exact { hT := Nat.lt_of_lt_of_le (blk_lt hT) hb, hS := Nat.lt_of_lt_of_le (blk_lt hS) hb, hM := Nat.lt_of_lt_of_le (blk_lt he) hb, hN := Nat.lt_of_lt_of_le (blk_lt hN) hb, hG := Nat.lt_of_lt_of_le (own_lt hG G rfl) hb,
          t1 := by rw [blk_cell hT]; exact t1, t2 := by rw [blk_cell hT]; exact t2, t4 := by rw [blk_cell hT]; exact t4, t6 := by rw [blk_cell hT]; exact t6, t11 := by rw [blk_cell hT]; exact t11, t14 := by rw [blk_cell hT]; exact t14, t39 := by rw [blk_cell hT]; exact t39,
          s36 := by rw [blk_cell hS]; exact s36, s43 := by rw [blk_cell hS]; exact s43, nn := fun j hj => by rw [blk_cell hN]; exact hn j hj, g := fun j x hx => (own_cell hG (i := j) (u := .int .i64 x) (by rw [List.getElem?_map, hx]; rfl)).1, m := hM }
theorem fresh_isB (w : World) : IsB w.heap.size [] (w.alloc (.cells #[.pointer none, .slice none 0 0] 98)) := by
  have := Lib.fresh_isBuilder 98 5 w
  rcases this with h | h
  · exact Or.inl (Lib.BuilderAtF.of h)
  · exact Or.inr (Lib.BuilderAtF.of h)

set_option maxHeartbeats 8000000 in
set_option maxRecDepth 100000 in
theorem zzMd (A0 : Option Addr) (c0 : Nat) (ws : List Int) (A1 : Option Addr) (c1 : Nat) (cs : List (Int × Int)) (st : Array Value) (idx pad : Bool) (width : Nat) (w : World) (h0 : Kd.C (Kd.int .i64) w A0 ws.length ws) (h1 : kCfg.C w A1 cs.length cs) (hn : ws.length ≤ 1000) (hcs : cs.length = ws.length)
    (s36 : st[36]? = some (.int .i64 0)) (s43 : st[43]? = some (.bool pad)) (ssz : (Try.prog.info? 65).map (·.size) = some st.size) (hwd : width ≤ 1000000) (hw : ∀ x ∈ ws, 0 ≤ x ∧ x ≤ 1000000) :
    Calls Try.prog 18 #[.slice A0 ws.length c0, .slice A1 cs.length c1, .agg st, .bool idx, .int .i64 (width : Int)] w fun e w' => e = .returned (.string ⟨(colsT idx pad width ws cs ws.length).toArray⟩) ∧ Below w.heap.size w w' := by
  have H0 := Aside0.mk h0
  have H1 := Aside0.mk h1
  have S36 := Aside0.mk s36
  have S43 := Aside0.mk s43
  have SSZ := Aside0.mk ssz
  have HW := Aside0.mk hw
  have HCS := Aside0.mk hcs
  clear h0 h1 s36 s43 ssz hw hcs
  go_enter Try.func18, Try.ntmps18
  go_upto_region 1 with (fail)
  have B1 := Aside0.mk (below_alloc (Below.refl w.heap.size w) (.cells st 65))
  have X1 := Aside0.mk (blk_new w (.cells st 65))
  change Code.wp _ _ _ _ (w.alloc (.cells st 65))
  have hs1 : w.heap.size ≤ (w.alloc (.cells st 65)).heap.size := B1.out.size
  generalize (w.alloc (.cells st 65)) = w1 at B1 X1 hs1 ⊢
  go_upto_region 2 with (first
    | ((with_reducible refine gate_dst (N := 15) rfl ?_); refine wpList_load_row ?aa 65 (.tmp 7) ?bb w.heap.size ?cc 65 st (0, 0) _ X1.out Try.underlying65 ?ff SSZ.out ?hh; (case aa => rfl); (case bb => rfl); (case cc => rfl); (case ff => rfl))
    | (go_at_call 19; refine (zzColumns A0 c0 ws A1 c1 cs st w1 (Kd.C_below H0.out B1.out) (Kd.C_below H1.out B1.out) (by omega) (by rw [HCS.out]; omega)).mono ?_; rintro e w2 ⟨T, tc, rfl, hTab, t1, t2, t13, b2⟩; have TAB := Aside0.mk hTab; have HB := Aside0.mk b2; have TT := Aside0.mk (And.intro t1 t2); clear hTab b2 t1 t2 t13))
  obtain ⟨hT2, bT2⟩ : w2.heap[T]? = some (.cells tc 94 (0, 0)) ∧ w1.heap.size ≤ T := by
    obtain ⟨S, M, NN, G, gc, bT, bS, bM, bN, hT, _⟩ := TAB.out
    exact ⟨hT, bT⟩
  have c1 : w2.cell? ⟨T, 1, none⟩ = some (.bool false) := by rw [blk_cell hT2]; exact TT.out.1
  have c2 : w2.cell? ⟨T, 2, none⟩ = some (.int .i64 0) := by rw [blk_cell hT2]; exact TT.out.2
  have f1 : w2.frozen? ⟨T, 1, none⟩ = false := blk_frozen hT2 1
  have f2 : w2.frozen? ⟨T, 2, none⟩ = false := blk_frozen hT2 2
  have TAB3 := Aside0.mk ((TAB.out.setT 1 (.bool idx) (by decide) (by decide) (by decide) (by decide) (by decide)).setT 2 (.int .i64 (width : Int)) (by decide) (by decide) (by decide) (by decide) (by decide))
  have u1 := Aside0.mk (set_far (u := .int .i64 (width : Int)) (set_here (u := .bool idx) TT.out.1) (show 2 ≠ 1 by decide))
  have u2 := Aside0.mk (set_here (u := .int .i64 (width : Int)) (set_far (u := .bool idx) TT.out.2 (show 1 ≠ 2 by decide)))
  have B3 := Aside0.mk (((B1.out.trans (HB.out.mono hs1)).setCell (p := ⟨T, 1, none⟩) (Nat.le_trans hs1 bT2) (.bool idx)).setCell (p := ⟨T, 2, none⟩) (Nat.le_trans hs1 bT2) (.int .i64 (width : Int)))
  clear TAB hT2 bT2
  go_upto_region 3 with (fail)
  change Code.wp _ _ _ _ ((w2.setCell ⟨T, 1, none⟩ (.bool idx)).setCell ⟨T, 2, none⟩ (.int .i64 (width : Int)))
  clear c1 c2 f1 f2
  generalize ((w2.setCell ⟨T, 1, none⟩ (.bool idx)).setCell ⟨T, 2, none⟩ (.int .i64 (width : Int))) = w3 at TAB3 B3 ⊢
  generalize ((tc.setIfInBounds 1 (.bool idx)).setIfInBounds 2 (.int .i64 (width : Int))) = tc3 at TAB3 u1 u2
  go_upto_region 4 with (fail)
  obtain ⟨S, M, NN, G, gc, hSep⟩ := TAB3.out.sep (b := w3.heap.size) (Nat.le_refl _) u1.out u2.out S36.out S43.out
  have P4 := Aside0.mk (hSep.below (below_alloc (Below.refl w3.heap.size w3) (.cells #[.pointer none, .slice none 0 0] 98)))
  have I4 := Aside0.mk (fresh_isB w3)
  have hb4 : w3.heap.size < (w3.alloc (.cells #[.pointer none, .slice none 0 0] 98)).heap.size := by simp
  have B4 := Aside0.mk (B3.out.alloc B3.out.size (.cells #[.pointer none, .slice none 0 0] 98))
  have hb3 : w.heap.size ≤ w3.heap.size := B3.out.size
  change Code.wp _ _ _ _ (w3.alloc (.cells #[.pointer none, .slice none 0 0] 98))
  clear hSep TAB3 u1 u2 B3
  generalize (w3.alloc (.cells #[.pointer none, .slice none 0 0] 98)) = w4 at P4 I4 hb4 B4 ⊢
  generalize w3.heap.size = b at P4 I4 hb4 hb3 ⊢
  go_wp2_with (first
    | (go_at_call 22; refine (renderSep b T S M NN G gc idx pad width ws cs w4 P4.out I4.out hb4 hwd hn HCS.out HW.out).mono ?_; rintro e w5 ⟨rfl, i5, b5⟩; have I5 := Aside0.mk i5; have B5 := Aside0.mk (B4.out.trans (b5.mono hb3)); have hb5 := Nat.le_of_lt (Nat.lt_of_lt_of_le hb4 b5.size); clear i5 b5)
    | (go_at_call 23; refine (Try.Builder_String_any_k b b _ _ I5.out hb5).mono ?_; rintro e w6 ⟨rfl, _, b6, _⟩; have B6 := Aside0.mk (B5.out.trans (b6.mono hb3)); clear b6))
  go_ret
  exact ⟨rfl, B6.out⟩
end Go.Proofs.Ytedknmaaaaomoaa.Hand
