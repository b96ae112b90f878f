/- What impl.MarkdownSeparator answers. -/
import Derived.Test.YtedknmaaaaomoaaHandMdF
namespace Go.Proofs.Ytedknmaaaaomoaa.Hand
open Go.RowKit Go.Proofs.YtedknmaaaaomoaaW.PrintWords Go.Proofs.YtedknmaaaaomoaaW.PrintMore Go.Proofs.Ytedknmaaaaomoaa.Base
set_option linter.unusedVariables false
set_option linter.unusedSimpArgs false

theorem there0 {w : World} {Y : Nat} (pad : Bool) (h : w.heap[Y]? = some (.cells sty0 65 (0, 0))) : w.there Y 0 (styM pad).size := by
  intro j hj
  rw [styM_56] at hj
  rw [Nat.zero_add]
  refine ⟨?_, blk_frozen h j⟩
  rw [blk_cell h]
  have : j < sty0.size := by rw [sty0_56]; exact hj
  rw [Array.getElem?_eq_getElem this]
  rfl
def impl_MarkdownSeparator.f (l0 : List ByteArray) (cols : Int) (pad : Bool) (widths aligns : List Int) (num nw : Int) : Option ByteArray :=
  if (0 ≤ cols ∧ cols ≤ 1000) ∧ (0 ≤ nw ∧ nw ≤ 1000000) ∧ (∀ x ∈ widths, 0 ≤ x ∧ x ≤ 1000000) then some ⟨(colsT (decide (0 < num)) pad nw.toNat (wsOf widths cols.toNat) (csOf aligns cols.toNat) cols.toNat).toArray⟩ else none
theorem wsOf_mem {widths : List Int} {n : Nat} (h : ∀ x ∈ widths, 0 ≤ x ∧ x ≤ 1000000) : ∀ x ∈ wsOf widths n, 0 ≤ x ∧ x ≤ 1000000 := by
  intro x hx
  obtain ⟨i, _, rfl⟩ := List.mem_map.1 hx
  unfold atL
  rcases Nat.lt_or_ge i widths.length with hi | hi
  · have : widths.getD i 0 = widths[i] := by simp [List.getD, hi]
    rw [this]
    exact h _ (List.getElem_mem hi)
  · simp [List.getD, List.getElem?_eq_none hi]

set_option maxHeartbeats 8000000 in
set_option maxRecDepth 100000 in
theorem impl_MarkdownSeparator.calls (A0 : Option Addr) (c0 : Nat) (l0 : List ByteArray) (cols : Int) (pad : Bool) (A3 : Option Addr) (c3 : Nat) (widths : List Int) (A4 : Option Addr) (c4 : Nat) (aligns : List Int) (num nw : Int) (r : ByteArray) (w : World) (hr0 : Kd.C Kd.string w A0 l0.length l0) (hc0 : l0.length ≤ c0) (hr3 : Kd.C (Kd.int .i64) w A3 widths.length widths) (hc3 : widths.length ≤ c3) (hr4 : Kd.C (Kd.int .i64) w A4 aligns.length aligns) (hc4 : aligns.length ≤ c4) (h : impl_MarkdownSeparator.f l0 cols pad widths aligns num nw = some r) :
    Calls Try.prog 11 #[.agg #[.slice A0 l0.length c0, .int .i64 cols, .bool pad, .slice A3 widths.length c3, .slice A4 aligns.length c4, .int .i64 num, .int .i64 nw]] w fun e w' => e = .returned (.string r) ∧ Below w.heap.size w w' := by
  unfold impl_MarkdownSeparator.f at h
  split at h
  case isFalse => cases h
  rename_i hz
  obtain ⟨⟨z1, z2⟩, ⟨z3, z4⟩, z5⟩ := hz
  obtain ⟨n, rfl⟩ := Int.eq_ofNat_of_zero_le z1
  obtain ⟨nwn, rfl⟩ := Int.eq_ofNat_of_zero_le z3
  rw [Int.toNat_natCast, Int.toNat_natCast] at h
  have HRES := Aside0.mk (Option.some.inj h)
  have H3 := Aside0.mk hr3
  have H4 := Aside0.mk hr4
  have HW := Aside0.mk (wsOf_mem (n := n) z5)
  clear h hr0 hc0 hr3 hc3 hr4 hc4 z5
  go_enter Try.func11, Try.ntmps11
  go_upto_region 1 with (fail)
  have B1 := Aside0.mk (below_alloc (Below.refl w.heap.size w) (.cells #[.slice A0 l0.length c0, .int .i64 (n : Int), .bool pad, .slice A3 widths.length c3, .slice A4 aligns.length c4, .int .i64 num, .int .i64 (nwn : Int)] 29))
  have X1 := Aside0.mk (blk_new w (.cells #[.slice A0 l0.length c0, .int .i64 (n : Int), .bool pad, .slice A3 widths.length c3, .slice A4 aligns.length c4, .int .i64 num, .int .i64 (nwn : Int)] 29))
  change Code.wp _ _ _ _ (w.alloc (.cells #[.slice A0 l0.length c0, .int .i64 (n : Int), .bool pad, .slice A3 widths.length c3, .slice A4 aligns.length c4, .int .i64 num, .int .i64 (nwn : Int)] 29))
  have hs1 : w.heap.size ≤ (w.alloc (.cells #[.slice A0 l0.length c0, .int .i64 (n : Int), .bool pad, .slice A3 widths.length c3, .slice A4 aligns.length c4, .int .i64 num, .int .i64 (nwn : Int)] 29)).heap.size := B1.out.size
  generalize (w.alloc (.cells #[.slice A0 l0.length c0, .int .i64 (n : Int), .bool pad, .slice A3 widths.length c3, .slice A4 aligns.length c4, .int .i64 num, .int .i64 (nwn : Int)] 29)) = w1 at B1 X1 hs1 ⊢
  obtain ⟨X, hX⟩ : ∃ X, w.heap.size = X := ⟨_, rfl⟩
  have X2 : Aside0 (w1.heap[X]? = some (.cells #[.slice A0 l0.length c0, .int .i64 (n : Int), .bool pad, .slice A3 widths.length c3, .slice A4 aligns.length c4, .int .i64 num, .int .i64 (nwn : Int)] 29 (0, 0))) := ⟨by rw [← hX]; exact X1.out⟩
  have HX := Aside0.mk hX
  rw [hX]
  clear X1 hX
  have x0 : w1.cell? ⟨X, 0, none⟩ = some (.slice A0 l0.length c0) := by rw [blk_cell X2.out]; rfl
  have x1 : w1.cell? ⟨X, 1, none⟩ = some (.int .i64 (n : Int)) := by rw [blk_cell X2.out]; rfl
  have x2 : w1.cell? ⟨X, 2, none⟩ = some (.bool pad) := by rw [blk_cell X2.out]; rfl
  have x3 : w1.cell? ⟨X, 3, none⟩ = some (.slice A3 widths.length c3) := by rw [blk_cell X2.out]; rfl
  have x4 : w1.cell? ⟨X, 4, none⟩ = some (.slice A4 aligns.length c4) := by rw [blk_cell X2.out]; rfl
  have x5 : w1.cell? ⟨X, 5, none⟩ = some (.int .i64 num) := by rw [blk_cell X2.out]; rfl
  have x6 : w1.cell? ⟨X, 6, none⟩ = some (.int .i64 (nwn : Int)) := by rw [blk_cell X2.out]; rfl
  go_upto_region 2 with (first
    | (go_at_call 17; refine (mdParts (.slice A0 l0.length c0) rfl n pad A3 c3 widths A4 c4 aligns num (nwn : Int) w1 (Kd.C_below H3.out B1.out) (Kd.C_below H4.out B1.out) (by omega)).mono ?_; rintro e w2 ⟨v1, v2, rfl, r1, r2, b2⟩; have R1 := Aside0.mk r1; have R2 := Aside0.mk r2; have B2 := Aside0.mk b2; have X3 := Aside0.mk (blk_below X2.out b2); clear r1 r2 b2 x0 x1 x2 x3 x4 x5 x6)
    | (refine wpList_store_mid ?aa 65 (.tmp 5) (.tmp 11) ?bb w2.heap.size 0 (styM pad) ?cc ?dd (there0 pad (blk_new w2 (.cells sty0 65))) (styM_size pad) (styM_one pad) ?hh; (case aa => rfl); (case bb => rfl); (case cc => rfl); (case dd => rfl)))
  have BB3 := Aside0.mk (below_setCells (Nat.le_refl w2.heap.size) (styM pad).toList 0 (w2.alloc (.cells sty0 65)) (below_alloc (Below.refl w2.heap.size w2) (.cells sty0 65)))
  have RG : Aside0 (((w2.alloc (.cells sty0 65)).setCells w2.heap.size 0 (styM pad).toList).rangeAt w2.heap.size 0 (styM pad).toList) := ⟨World.rangeAt_setCells_same _ _ _ _ (by rw [Array.length_toList]; exact there0 pad (blk_new w2 (.cells sty0 65)))⟩
  change Code.wp _ _ _ _ ((w2.alloc (.cells sty0 65)).setCells w2.heap.size 0 (styM pad).toList)
  generalize ((w2.alloc (.cells sty0 65)).setCells w2.heap.size 0 (styM pad).toList) = w3 at BB3 RG ⊢
  have B3 := Aside0.mk (B1.out.trans ((B2.out.mono hs1).trans (BB3.out.mono (Nat.le_trans hs1 B2.out.size))))
  have X4 := Aside0.mk (blk_below X3.out BB3.out)
  obtain ⟨A5, c5, e5, hlc5, hC5⟩ := Kd.R_reads R1.out
  obtain ⟨A6, c6, e6, hlc6, hC6⟩ := Kd.R_reads R2.out
  have C5 := Aside0.mk (Kd.C_below hC5 BB3.out)
  have C6 := Aside0.mk (Kd.C_below hC6 BB3.out)
  subst e5
  subst e6
  clear hlc5 hlc6 hC5 hC6 R1 R2 BB3 X3 B2 B1
  generalize w2.heap.size = Y at RG ⊢
  have x5 : w3.cell? ⟨X, 5, none⟩ = some (.int .i64 num) := by rw [blk_cell X4.out]; rfl
  have x6 : w3.cell? ⟨X, 6, none⟩ = some (.int .i64 (nwn : Int)) := by rw [blk_cell X4.out]; rfl
  have hst36 : ((styM pad).toList.toArray)[36]? = some (.int .i64 0) := by rw [Array.toArray_toList]; exact styM_36 pad
  have hst43 : ((styM pad).toList.toArray)[43]? = some (.bool pad) := by rw [Array.toArray_toList]; exact styM_43 pad
  have hstsz : (Try.prog.info? 65).map (·.size) = some ((styM pad).toList.toArray).size := by rw [Array.toArray_toList]; exact styM_size pad
  have hstl : (Try.prog.info? 65).map (·.size) = some ((styM pad).toList).length := by rw [Array.length_toList]; exact styM_size pad
  have E36 := Aside0.mk hst36
  have E43 := Aside0.mk hst43
  have ESZ := Aside0.mk hstsz
  have ESL := Aside0.mk hstl
  clear hst36 hst43 hstsz hstl
  generalize (styM pad).toList = sl at RG E36 E43 ESZ ESL
  have HS3 := B3.out.size
  go_upto_region 99 with (first
    | ((with_reducible refine gate_dst (N := 14) rfl ?_); refine wpList_load_mid ?la 65 (.tmp 5) ?lb Y 0 ?lc sl _ RG.out Try.underlying65 ?lf ESL.out ?lh; (case la => rfl); (case lb => rfl); (case lc => rfl); (case lf => rfl))
    | (go_at_call 18; refine (zzMd A5 c5 (wsOf widths n) A6 c6 (csOf aligns n) sl.toArray (decide (0 < num)) pad nwn w3 C5.out C6.out (by rw [wsOf_len]; omega) (by rw [csOf_len, wsOf_len]) E36.out E43.out ESZ.out (by omega) HW.out).mono ?_; rintro e w4 ⟨rfl, b4⟩; have B4 := Aside0.mk b4; clear b4))
  go_wp2
  go_ret
  have hr := HRES.out
  exact ⟨by rw [← hr]; first | rfl | (rw [wsOf_len]; rfl) | (simp only [wsOf_len]; rfl), (B3.out.trans (B4.out.mono HS3))⟩
end Go.Proofs.Ytedknmaaaaomoaa.Hand
