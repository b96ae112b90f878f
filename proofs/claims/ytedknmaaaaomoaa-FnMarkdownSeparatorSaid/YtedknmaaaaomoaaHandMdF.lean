/- What impl.markdownParts makes. -/
import Derived.Test.YtedknmaaaaomoaaHandMdE
import Derived.Test.YtedknmaaaaomoaaHandGrown
import Derived.Deep.MidRow
import Derived.Deep.Upon
import Derived.Lib.LazyBuf
namespace Go.Proofs.Ytedknmaaaaomoaa.Hand
open Go.RowKit Go.Proofs.YtedknmaaaaomoaaW.PrintWords Go.Proofs.YtedknmaaaaomoaaW.PrintMore Go.Proofs.Ytedknmaaaaomoaa.Base
set_option linter.unusedVariables false
set_option linter.unusedSimpArgs false

def buildM (v : Value) : Sem Value := Instr.build 65 #[(6, v)]
def storeM (a v : Value) : Sem Unit := Instr.storeAt 65 a v
theorem exec65 (ev : Operand → Value) (d : Option Tmp) (ty : TypeId) (pos : String) (aft : Array Edge) (g : Option (Nat × Bool)) : execOp ev ⟨d, .build 65 #[(6, .tmp 33)], ty, pos, aft, g⟩ = (do let v ← buildM (ev (.tmp 33)); pure (.value v)) := by
  simp [execOp, buildM]
theorem execS65 (ev : Operand → Value) (d : Option Tmp) (ty : TypeId) (pos : String) (aft : Array Edge) (g : Option (Nat × Bool)) : execOp ev ⟨d, .store 65 (.tmp 4) (.tmp 34), ty, pos, aft, g⟩ = (do storeM (ev (.tmp 4)) (ev (.tmp 34)); pure .skip) := by
  simp [execOp, storeM]
/-- A style that pads, or does not. -/
noncomputable def styM (pad : Bool) : Array Value :=
  match (Instr.build 65 #[(6, .agg #[.bool pad])]).run Try.prog default with
  | .ok (.agg cs) _ => cs
  | _ => #[]
theorem styM_run (pad : Bool) (w : World) : (buildM (.agg #[.bool pad])).run Try.prog w = .ok (.agg (styM pad)) w := by kernel_rfl
theorem styM_36 (pad : Bool) : (styM pad)[36]? = some (.int .i64 0) := by kernel_rfl
theorem styM_43 (pad : Bool) : (styM pad)[43]? = some (.bool pad) := by kernel_rfl
theorem styM_size (pad : Bool) : (Try.prog.info? 65).map (·.size) = some (styM pad).size := by kernel_rfl
theorem styM_56 (pad : Bool) : (styM pad).size = 56 := by kernel_rfl
theorem styM_one (pad : Bool) : (styM pad).all (·.oneCell') = true := by kernel_rfl
/-- The style's zero. -/
def sty0 : Array Value := #[.string ⟨#[]⟩, .string ⟨#[]⟩, .string ⟨#[]⟩, .string ⟨#[]⟩, .string ⟨#[]⟩, .string ⟨#[]⟩, .string ⟨#[]⟩, .string ⟨#[]⟩, .string ⟨#[]⟩, .string ⟨#[]⟩, .string ⟨#[]⟩, .string ⟨#[]⟩, .string ⟨#[]⟩, .string ⟨#[]⟩, .string ⟨#[]⟩, .string ⟨#[]⟩, .string ⟨#[]⟩, .string ⟨#[]⟩, .string ⟨#[]⟩, .pointer none, .slice none 0 0, .slice none 0 0, .slice none 0 0, .slice none 0 0, .slice none 0 0, .slice none 0 0, .slice none 0 0, .bool false, .int .i64 0, .int .i64 0, .int .i64 0, .int .i64 0, .int .i64 0, .int .i64 0, .int .i64 0, .int .i64 0, .int .i64 0, .int .i64 0, .bool false, .string ⟨#[]⟩, .string ⟨#[]⟩, .bool false, .string ⟨#[]⟩, .bool false, .bool false, .bool false, .bool false, .bool false, .bool false, .bool false, .bool false, .int .i64 0, .int .i64 0, .int .i64 0, .slice none 0 0, .int .i64 0]
theorem sty0_56 : sty0.size = 56 := rfl

theorem keepI {w w' : World} {base : Nat} {ok : Nat → Prop} {v u : Value} {xs : List Int} (h : (Kd.int .i64).R 3 w base ok v xs) (hg : w.grownBy w' u.ownBlock) (hne : ∀ k, v.ownBlock = some k → some k ≠ u.ownBlock) : (Kd.int .i64).R 3 w' base ok v xs := by
  obtain ⟨h0, inner, ho, hr⟩ := h
  exact ⟨h0, inner, own_move ho (fun k hk => hg.block k (own_lt ho k hk) (hne k hk)), hr⟩
theorem keepC {w w' : World} {base : Nat} {ok : Nat → Prop} {v u : Value} {xs : List (Int × Int)} (h : kCfg.R 41 w base ok v xs) (hg : w.grownBy w' u.ownBlock) (hne : ∀ k, v.ownBlock = some k → some k ≠ u.ownBlock) : kCfg.R 41 w' base ok v xs := by
  obtain ⟨h0, inner, ho, hr⟩ := h
  exact ⟨h0, inner, own_move ho (fun k hk => hg.block k (own_lt ho k hk) (hne k hk)), hr⟩
theorem neIC {w : World} {base base' : Nat} {ok ok' : Nat → Prop} {v u : Value} {xs : List Int} {ys : List (Int × Int)} (h : (Kd.int .i64).R 3 w base ok v xs) (h' : kCfg.R 41 w base' ok' u ys) : ∀ k, v.ownBlock = some k → some k ≠ u.ownBlock := by
  intro k hk e
  obtain ⟨_, i1, o1, _⟩ := h
  obtain ⟨_, i2, o2, _⟩ := h'
  obtain ⟨c1, hc1⟩ := own_typed o1 k hk
  obtain ⟨c2, hc2⟩ := own_typed o2 k e.symm
  exact blk_ne' hc1 hc2 (by decide) rfl

theorem neCI {w : World} {base base' : Nat} {ok ok' : Nat → Prop} {v u : Value} {xs : List Int} {ys : List (Int × Int)} (h' : kCfg.R 41 w base' ok' u ys) (h : (Kd.int .i64).R 3 w base ok v xs) : ∀ k, u.ownBlock = some k → some k ≠ v.ownBlock := fun k hk e => neIC h h' k e.symm hk.symm
def wsOf (widths : List Int) (n : Nat) : List Int := (List.range n).map (atL widths)
def csOf (aligns : List Int) (n : Nat) : List (Int × Int) := (List.range n).map fun i => (atL aligns i, 0)
theorem wsOf_succ (l : List Int) (n : Nat) : wsOf l (n + 1) = wsOf l n ++ [atL l n] := by simp [wsOf, List.range_succ]
theorem csOf_succ (l : List Int) (n : Nat) : csOf l (n + 1) = csOf l n ++ [(atL l n, 0)] := by simp [csOf, List.range_succ]
theorem wsOf_len (l : List Int) (n : Nat) : (wsOf l n).length = n := by simp [wsOf]
theorem csOf_len (l : List Int) (n : Nat) : (csOf l n).length = n := by simp [csOf]

attribute [local go_sem ↓] exec65 execS65
set_option maxHeartbeats 8000000 in
set_option maxRecDepth 100000 in
theorem mdParts (vc : Value) (hvc : vc.oneCell' = true) (n : Nat) (pad : Bool) (A3 : Option Addr) (c3 : Nat) (widths : List Int) (A4 : Option Addr) (c4 : Nat) (aligns : List Int) (num nw : Int) (w : World) (h3 : Kd.C (Kd.int .i64) w A3 widths.length widths) (h4 : Kd.C (Kd.int .i64) w A4 aligns.length aligns) (hn : n ≤ 1000) :
    Calls Try.prog 17 #[.agg #[vc, .int .i64 (n : Int), .bool pad, .slice A3 widths.length c3, .slice A4 aligns.length c4, .int .i64 num, .int .i64 nw]] w fun e w' => ∃ v1 v2, e = .returned (.tuple #[v1, v2, .agg (styM pad)]) ∧ (Kd.int .i64).R 3 w' w.heap.size (fun _ => True) v1 (wsOf widths n) ∧ kCfg.R 41 w' w.heap.size (fun _ => True) v2 (csOf aligns n) ∧ Below w.heap.size w w' := by
  have H3 := Aside0.mk h3
  have H4 := Aside0.mk h4
  clear h3 h4
  go_enter Try.func17, Try.ntmps17
  go_upto_region 1 with (fail)
  have B1 := Aside0.mk (below_alloc (below_alloc (Below.refl w.heap.size w) (.cells #[vc, .int .i64 (n : Int), .bool pad, .slice A3 widths.length c3, .slice A4 aligns.length c4, .int .i64 num, .int .i64 nw] 29)) (.cells sty0 65))
  have X1 := Aside0.mk (blk_alloc (blk_new w (.cells #[vc, .int .i64 (n : Int), .bool pad, .slice A3 widths.length c3, .slice A4 aligns.length c4, .int .i64 num, .int .i64 nw] 29)) (.cells sty0 65))
  have Y1 : Aside0 (((w.alloc (.cells #[vc, .int .i64 (n : Int), .bool pad, .slice A3 widths.length c3, .slice A4 aligns.length c4, .int .i64 num, .int .i64 nw] 29)).alloc (.cells sty0 65)).heap[w.heap.size + 1]? = some (.cells sty0 65 (0, 0))) := ⟨blk_at (by simp) _ _⟩
  change Code.wp _ _ _ _ ((w.alloc (.cells #[vc, .int .i64 (n : Int), .bool pad, .slice A3 widths.length c3, .slice A4 aligns.length c4, .int .i64 num, .int .i64 nw] 29)).alloc (.cells sty0 65))
  have hs1 : w.heap.size ≤ ((w.alloc (.cells #[vc, .int .i64 (n : Int), .bool pad, .slice A3 widths.length c3, .slice A4 aligns.length c4, .int .i64 num, .int .i64 nw] 29)).alloc (.cells sty0 65)).heap.size := B1.out.size
  generalize ((w.alloc (.cells #[vc, .int .i64 (n : Int), .bool pad, .slice A3 widths.length c3, .slice A4 aligns.length c4, .int .i64 num, .int .i64 nw] 29)).alloc (.cells sty0 65)) = w1 at B1 X1 Y1 hs1 ⊢
  obtain ⟨X, hX⟩ : ∃ X, w.heap.size = X := ⟨_, rfl⟩
  obtain ⟨Y, hY⟩ : ∃ Y, w.heap.size + 1 = Y := ⟨_, rfl⟩
  have HXY : Aside0 (w.heap.size = X ∧ w.heap.size + 1 = Y) := ⟨hX, hY⟩
  have X2 : Aside0 (w1.heap[X]? = some (.cells #[vc, .int .i64 (n : Int), .bool pad, .slice A3 widths.length c3, .slice A4 aligns.length c4, .int .i64 num, .int .i64 nw] 29 (0, 0))) := ⟨by rw [← hX]; exact X1.out⟩
  have Y2 : Aside0 (w1.heap[Y]? = some (.cells sty0 65 (0, 0))) := ⟨by rw [← hY]; exact Y1.out⟩
  rw [hY]
  rw [hX]
  clear X1 Y1 hX hY
  have x1 : w1.cell? ⟨X, 1, none⟩ = some (.int .i64 (n : Int)) := by rw [blk_cell X2.out]; rfl
  go_wp2
  go_loopg [5, 6, 10] n (fun kq v5 v6 v10 w' => ∃ (i : Nat), v10 = .int .i64 (i : Int) ∧ Aside0 (i + kq = n) ∧ Aside0 ((Kd.int .i64).R 3 w' w.heap.size (fun _ => True) v5 (wsOf widths i)) ∧ Aside0 (kCfg.R 41 w' w.heap.size (fun _ => True) v6 (csOf aligns i)) ∧ Aside0 (w'.heap[X]? = some (.cells #[vc, .int .i64 (n : Int), .bool pad, .slice A3 widths.length c3, .slice A4 aligns.length c4, .int .i64 num, .int .i64 nw] 29 (0, 0))) ∧ Aside0 (w'.heap[Y]? = some (.cells sty0 65 (0, 0))) ∧ Aside0 (Below w.heap.size w w'))
  case atStart => exact ⟨0, rfl, ⟨by omega⟩, ⟨Kd.R_nil _ _ _ _ _⟩, ⟨Kd.R_nil _ _ _ _ _⟩, X2, Y2, B1⟩
  case round =>
    clear X2 Y2 B1 x1
    obtain ⟨i, rfl, HK, R5, R6, XX, YY, BB⟩ := hrel
    have hbr : w.heap.size ≤ wr.heap.size := BB.out.size
    by_cases hi : i < n
    · have p1 : decide ((i : Int) < (n : Int)) = true := decide_eq_true (by omega)
      have x3 : wr.cell? ⟨X, 3, none⟩ = some (.slice A3 widths.length c3) := by rw [blk_cell XX.out]; rfl
      have hl5 := wsOf_len widths i
      have HL5 := Aside0.mk hl5
      have HL6 := Aside0.mk (csOf_len aligns i)
      clear hl5
      go_upto_region 7 with (first
        | (go_at_call 12; refine (implAt A3 c3 widths i _ (Kd.C_below H3.out BB.out)).mono ?_; rintro e w2 ⟨rfl, rfl⟩)
        | ((with_reducible refine gate_builtin (b := .append) (xs := #[.tmp 13, .tmp 18]) rfl ?_); at_builtin; refine Kd.R_append (d := Kd.int .i64) (w0 := w) (W := wr) w.heap.size (by rfl) (.tmp 13) (.tmp 18) 22 3 (.int .i64 0) 8 (by rfl) Try.underlying22 info3 (by rfl) (by decide) (by decide) u5 (wsOf widths i) (atL widths i) [.int .i64 (atL widths i)] (fun _ => True) (fun _ => False) (by rfl) (by rfl) (by rfl) (fun _ hk => hk.elim) (fun _ _ => trivial) R5.out BB.out hbr (by rw [HL5.out]; omega) ?_; intro v3 w3 ho hb hg hat; have Q5 := Aside0.mk ho; have Q6 := Aside0.mk (keepC R6.out hg (neCI R6.out R5.out)); have B3 := Aside0.mk hb; have X3 := Aside0.mk (blk_grown XX.out hg (Kd.R_ne R5.out XX.out (by decide))); have Y3 := Aside0.mk (blk_grown YY.out hg (Kd.R_ne R5.out YY.out (by decide))); clear ho hb hg hat))
      have hb3 : w.heap.size ≤ w3.heap.size := B3.out.size
      have x4 : w3.cell? ⟨X, 4, none⟩ = some (.slice A4 aligns.length c4) := by rw [blk_cell X3.out]; rfl
      clear x3
      go_wp2_with (first
        | (go_at_call 12; refine (implAt A4 c4 aligns i _ (Kd.C_below H4.out B3.out)).mono ?_; rintro e w2 ⟨rfl, rfl⟩)
        | ((with_reducible refine gate_builtin (b := .append) (xs := #[.tmp 20, .tmp 26]) rfl ?_); at_builtin; refine Kd.R_append (d := kCfg) (w0 := w) (W := w3) w.heap.size (by rfl) (.tmp 20) (.tmp 26) 34 41 (.agg (cfgC 0 0)) 184 (by rfl) Try.underlying34 info41 (by rfl) (by decide) (by decide) u6 (csOf aligns i) (atL aligns i, 0) (cfgC (atL aligns i) 0).toList (fun _ => True) (fun _ => False) (by rfl) (by rfl) (by rfl) (fun _ hk => hk.elim) (fun _ _ => trivial) Q6.out B3.out hb3 (by rw [HL6.out]; omega) ?_; intro v4 w4 ho hb hg hat; have P6 := Aside0.mk ho; have P5 := Aside0.mk (keepI Q5.out hg (neIC Q5.out Q6.out)); have B4 := Aside0.mk hb; have X4 := Aside0.mk (blk_grown X3.out hg (Kd.R_ne Q6.out X3.out (by decide))); have Y4 := Aside0.mk (blk_grown Y3.out hg (Kd.R_ne Q6.out Y3.out (by decide))); clear ho hb hg hat))
      go_roundg (gk - 1)
      case measure => have := HK.out; omega
      case rel => exact ⟨i + 1, by go_num, ⟨by have := HK.out; omega⟩, ⟨by rw [wsOf_succ]; exact P5.out⟩, ⟨by rw [csOf_succ]; exact P6.out⟩, X4, Y4, B4⟩
    · have hin : i = n := by have := HK.out; omega
      have p1 : decide ((i : Int) < (n : Int)) = false := decide_eq_false (by omega)
      rw [hin] at R5 R6
      go_upto_region 9 with (fail)
      have x2 : wr.cell? ⟨X, 2, none⟩ = some (.bool pad) := by rw [blk_cell XX.out]; rfl
      have hY : w.heap.size ≤ Y := by have := HXY.out; omega
      have hth : wr.drew.there Y 0 (styM pad).size := by
        intro j hj
        rw [styM_56] at hj
        rw [Nat.zero_add]
        refine ⟨?_, blk_frozen (blk_drew YY.out) j⟩
        rw [blk_cell (blk_drew YY.out)]
        have : j < sty0.size := by rw [sty0_56]; exact hj
        rw [Array.getElem?_eq_getElem this]
        rfl
      have hst : (storeM (.pointer (some ⟨Y, 0, none⟩)) (.agg (styM pad))).run Try.prog wr.drew = .ok () (wr.drew.setCells Y 0 (styM pad).toList) := run_storeAt_mid wr.drew Y 0 65 (styM pad) hth (styM_size pad) (styM_one pad)
      have hbm := styM_run pad
      go_region
      go_wp2
      have hcl : (styM pad).toList.length = (styM pad).size := by simp
      have hrg : (wr.drew.setCells Y 0 (styM pad).toList).rangeAt Y 0 (styM pad).toList := World.rangeAt_setCells_same _ _ _ _ (by rw [hcl]; exact hth)
      have hld : (loadVar 65 ⟨Y, 0, none⟩).run Try.prog (wr.drew.setCells Y 0 (styM pad).toList) = .ok (.agg (styM pad)) (wr.drew.setCells Y 0 (styM pad).toList) := by
        have := run_loadVar_mid (P := Try.prog) (wr.drew.setCells Y 0 (styM pad).toList) Y 0 65 (styM pad).toList _ hrg Try.underlying65 rfl (by rw [hcl]; exact styM_size pad)
        rw [Array.toArray_toList] at this
        exact this
      have hk : ∀ k, k < wr.heap.size → k ≠ Y → (wr.drew.setCells Y 0 (styM pad).toList).heap[k]? = wr.heap[k]? := fun k hk hne => World.heap_setCells_other wr.drew Y 0 _ hk hne
      refine bodyPost_ret (v := .tuple #[u5, u6, .agg (styM pad)]) ?_ rfl ⟨u5, u6, rfl, ?_, ?_, ?_⟩
      · simp [results, Try.results17, asAddr, hld]
      · obtain ⟨h0, inner, ho, hr⟩ := R5.out
        exact ⟨h0, inner, own_move ho (fun k hko => hk k (own_lt ho k hko) (own_far ho YY.out (by decide) hko)), hr⟩
      · obtain ⟨h0, inner, ho, hr⟩ := R6.out
        exact ⟨h0, inner, own_move ho (fun k hko => hk k (own_lt ho k hko) (own_far ho YY.out (by decide) hko)), hr⟩
      · exact below_setCells hY _ _ _ (below_drew1 BB.out)
end Go.Proofs.Ytedknmaaaaomoaa.Hand
