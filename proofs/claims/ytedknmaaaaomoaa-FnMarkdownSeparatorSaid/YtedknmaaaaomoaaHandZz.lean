/- A table of columns. -/
import Derived.Test.YtedknmaaaaomoaaHandApp
import Derived.Deep.AppendLies
import Derived.Deep.RegionLaw
import Derived.Deep.Cut
import Derived.Laws.MakeOwn
namespace Go.Proofs.Ytedknmaaaaomoaa.Hand
open Go.RowKit Go.Proofs.YtedknmaaaaomoaaW.PrintWords Go.Proofs.Ytedknmaaaaomoaa.Base
open Go.Maps (Keyed)
set_option linter.unusedVariables false
set_option linter.unusedSimpArgs false

attribute [local go_sem] store_nilFunc
theorem info4 : (Try.prog.info? 4).map (fun i => (i.zero, i.size, i.bytes)) = some (some (.bool false), 1, 1) := by kernel_rfl
theorem blk_ne' {w : World} {g g' : Nat} {t t' : TypeId} {cs cs' : Array Value} {f f' : Nat × Nat} (h : w.heap[g]? = some (.cells cs t f)) (h' : w.heap[g']? = some (.cells cs' t' f')) (hne : t ≠ t') : g ≠ g' := by
  rintro rfl
  rw [h] at h'
  simp only [Option.some.injEq, Obj.cells.injEq] at h'
  exact hne h'.2.1
theorem blk_at {W : World} {n : Nat} (h : W.heap.size = n) (cs : Array Value) (t : TypeId) : (W.alloc (.cells cs t)).heap[n]? = some (.cells cs t (0, 0)) := by rw [← h]; exact blk_new W _
theorem map_at {W : World} {n : Nat} (h : W.heap.size = n) (es : Array MapEntry) (k : Nat) : (W.alloc (.map es k)).heap[n]? = some (.map es k) := by rw [← h]; exact blk_new W _
theorem own_empty {w : World} {base g : Nat} {e : TypeId} (hg : w.heap[g]? = some (.cells #[] e (0, 0))) (hb : base ≤ g) : w.ownsRow base e 1 (.slice (some ⟨g, 0, none⟩) 0 0) 0 [] := by
  unfold World.ownsRow
  refine ⟨by simp, Or.inr ⟨g, 0, #[], rfl, hb, hg, ?_⟩⟩
  simp

def build94 (n g m v s : Value) : Sem Value := Instr.build 94 #[(14, n), (11, g), (6, m), (4, v), (37, s)]
theorem exec94 (ev : Operand → Value) (d : Option Tmp) (ty : TypeId) (pos : String) (aft : Array Edge) (g : Option (Nat × Bool)) : execOp ev ⟨d, .build 94 #[(14, .tmp 12), (11, .tmp 15), (6, .tmp 16), (4, .tmp 19), (37, .tmp 5)], ty, pos, aft, g⟩ = (do let v ← build94 (ev (.tmp 12)) (ev (.tmp 15)) (ev (.tmp 16)) (ev (.tmp 19)) (ev (.tmp 5)); pure (.value v)) := by
  simp [execOp, build94]
noncomputable def tabC (n : Int) (gv nv : Value) (M S : Nat) : Array Value :=
  match (Instr.build 94 #[(14, .int .i64 n), (11, gv), (6, .map (some M)), (4, nv), (37, .pointer (some ⟨S, 0, none⟩))]).run Try.prog default with
  | .ok (.agg cs) _ => cs
  | _ => #[]
attribute [local go_sem ↓] exec94
@[local go_sem] theorem tab_run (n : Int) (a b : Option Addr) (x y x' y' M S : Nat) (w : World) : (build94 (.int .i64 n) (.slice a x y) (.map (some M)) (.slice b x' y') (.pointer (some ⟨S, 0, none⟩))).run Try.prog w = .ok (.agg (tabC n (.slice a x y) (.slice b x' y') M S)) w := by kernel_rfl
section
variable (n : Int) (a b : Option Addr) (x y x' y' M S : Nat)
theorem tab_4 : (tabC n (.slice a x y) (.slice b x' y') M S)[4]? = some (.slice b x' y') := by kernel_rfl
theorem tab_6 : (tabC n (.slice a x y) (.slice b x' y') M S)[6]? = some (.map (some M)) := by kernel_rfl
theorem tab_11 : (tabC n (.slice a x y) (.slice b x' y') M S)[11]? = some (.slice a x y) := by kernel_rfl
theorem tab_14 : (tabC n (.slice a x y) (.slice b x' y') M S)[14]? = some (.int .i64 n) := by kernel_rfl
theorem tab_39 : (tabC n (.slice a x y) (.slice b x' y') M S)[39]? = some (.pointer (some ⟨S, 0, none⟩)) := by kernel_rfl
theorem tab_1 : (tabC n (.slice a x y) (.slice b x' y') M S)[1]? = some (.bool false) := by kernel_rfl
theorem tab_2 : (tabC n (.slice a x y) (.slice b x' y') M S)[2]? = some (.int .i64 0) := by kernel_rfl
theorem tab_13 : (tabC n (.slice a x y) (.slice b x' y') M S)[13]? = some (.int .i64 0) := by kernel_rfl
end

theorem map_ne {w : World} {g g' : Nat} {es : Array MapEntry} {k : Nat} {t' : TypeId} {cs' : Array Value} {f' : Nat × Nat} (h : w.heap[g]? = some (.map es k)) (h' : w.heap[g']? = some (.cells cs' t' f')) : g ≠ g' := by
  rintro rfl
  rw [h] at h'
  cases h'
theorem own_far {w : World} {base : Nat} {e : TypeId} {size n : Nat} {v : Value} {xs : List Value} (h : w.ownsRow base e size v n xs) {g : Nat} {t : TypeId} {cs : Array Value} {f : Nat × Nat} (hg : w.heap[g]? = some (.cells cs t f)) (hne : e ≠ t) {k : Nat} (hk : v.ownBlock = some k) : k ≠ g := by
  obtain ⟨cells, hc⟩ := own_typed h k hk
  exact blk_ne' hc hg hne
theorem own_farM {w : World} {base : Nat} {e : TypeId} {size n : Nat} {v : Value} {xs : List Value} (h : w.ownsRow base e size v n xs) {g : Nat} {es : Array MapEntry} {c : Nat} (hg : w.heap[g]? = some (.map es c)) {k : Nat} (hk : v.ownBlock = some k) : k ≠ g := by
  obtain ⟨cells, hc⟩ := own_typed h k hk
  exact Ne.symm (map_ne hg hc)
theorem made_at (n j : Nat) (h : j < n) : (madeCells #[.bool false] n)[j]? = some (.bool false) := by
  simp [madeCells, h, Nat.mod_one]
/-- A table of columns, of the call's own. -/
def TabIn (w : World) (base T : Nat) (tc : Array Value) (ws : List Int) (cs : List (Int × Int)) (st : Array Value) : Prop :=
  ∃ S M NN G gc, base ≤ T ∧ base ≤ S ∧ base ≤ M ∧ base ≤ NN ∧ w.heap[T]? = some (.cells tc 94 (0, 0)) ∧ tc[4]? = some (.slice (some ⟨NN, 0, none⟩) ws.length ws.length) ∧ tc[6]? = some (.map (some M)) ∧ tc[11]? = some (.slice (some ⟨G, 0, none⟩) ws.length gc) ∧ tc[14]? = some (.int .i64 (ws.length : Int)) ∧ tc[39]? = some (.pointer (some ⟨S, 0, none⟩)) ∧
    w.heap[S]? = some (.cells st 65 (0, 0)) ∧ (∃ cur, w.heap[NN]? = some (.cells cur 4 (0, 0)) ∧ ∀ j < ws.length, cur[j]? = some (.bool true)) ∧ w.ownsRow base 3 1 (.slice (some ⟨G, 0, none⟩) ws.length gc) ws.length (ws.map (Value.int .i64)) ∧ CfgMap w M cs
theorem Below.grownM {B : Nat} {w0 w w' : World} {M : Nat} (h : Below B w0 w) (hg : w.grownBy w' (some M)) (hB : B ≤ w.heap.size) (hM : B ≤ M) : Below B w0 w' := h.grown hg hB (by intro k hk; cases hk; exact hM)

/-- What the table's making leaves. -/
def ZzRel (st : Array Value) (ws : List Int) (w : World) (v7 : Value) (wc : World) : Prop :=
  ∃ T S M G NN gc, v7 = .pointer (some ⟨T, 0, none⟩) ∧ Aside0 (wc.heap[T]? = some (.cells (tabC (ws.length : Int) (.slice (some ⟨G, 0, none⟩) ws.length gc) (.slice (some ⟨NN, 0, none⟩) ws.length ws.length) M S) 94 (0, 0))) ∧ Aside0 (wc.heap[S]? = some (.cells st 65 (0, 0))) ∧ Aside0 (wc.heap[M]? = some (.map #[] 0)) ∧ Aside0 (wc.heap[NN]? = some (.cells (madeCells #[.bool false] ws.length) 4 (0, 0))) ∧ Aside0 (wc.ownsRow w.heap.size 3 1 (.slice (some ⟨G, 0, none⟩) ws.length gc) ws.length (ws.map (Value.int .i64))) ∧ Aside0 (Below w.heap.size w wc) ∧ w.heap.size ≤ T ∧ w.heap.size ≤ S ∧ w.heap.size ≤ M ∧ w.heap.size ≤ NN
theorem ZzRel.mk' {st : Array Value} {ws : List Int} {w wc : World} {T S M G NN gc : Nat} (ra : wc.heap[T]? = some (.cells (tabC (ws.length : Int) (.slice (some ⟨G, 0, none⟩) ws.length gc) (.slice (some ⟨NN, 0, none⟩) ws.length ws.length) M S) 94 (0, 0))) (rb : wc.heap[S]? = some (.cells st 65 (0, 0))) (rc : wc.heap[M]? = some (.map #[] 0)) (rd : wc.heap[NN]? = some (.cells (madeCells #[.bool false] ws.length) 4 (0, 0))) (re : wc.ownsRow w.heap.size 3 1 (.slice (some ⟨G, 0, none⟩) ws.length gc) ws.length (ws.map (Value.int .i64))) (rf : Below w.heap.size w wc) (rg : w.heap.size ≤ T ∧ w.heap.size ≤ S ∧ w.heap.size ≤ M ∧ w.heap.size ≤ NN) : ZzRel st ws w (.pointer (some ⟨T, 0, none⟩)) wc :=
  ⟨T, S, M, G, NN, gc, rfl, ⟨ra⟩, ⟨rb⟩, ⟨rc⟩, ⟨rd⟩, ⟨re⟩, ⟨rf⟩, rg⟩

set_option maxHeartbeats 8000000 in
set_option maxRecDepth 100000 in
theorem zzColumns (A0 : Option Addr) (c0 : Nat) (ws : List Int) (A1 : Option Addr) (c1 : Nat) (cs : List (Int × Int)) (st : Array Value) (w : World) (h0 : Kd.C (Kd.int .i64) w A0 ws.length ws) (h1 : kCfg.C w A1 cs.length cs) (hn : ws.length ≤ 1000000) (hm : cs.length ≤ 1000000) :
    Calls Try.prog 19 #[.slice A0 ws.length c0, .slice A1 cs.length c1, .agg st] w fun e w' => ∃ T tc, e = .returned (.pointer (some ⟨T, 0, none⟩)) ∧ TabIn w' w.heap.size T tc ws cs st ∧ tc[1]? = some (.bool false) ∧ tc[2]? = some (.int .i64 0) ∧ tc[13]? = some (.int .i64 0) ∧ Below w.heap.size w w' := by
  have hmm := @run_makeMap Try.prog
  obtain ⟨i1, hi1, hy0, hy1, hy2⟩ := info_parts info4
  have hms : ∀ W : World, (Instr.makeSlice 73 (.int .i64 (ws.length : Int)) (.int .i64 (ws.length : Int))).run Try.prog W = .ok (.slice (some ⟨W.heap.size, 0, none⟩) ws.length ws.length) (W.alloc (.cells (madeCells #[.bool false] ws.length) 4)) := by
    intro W
    have := run_makeSlice (P := Try.prog) W 73 4 i1 (.bool false) Try.underlying73 hi1 hy0 .i64 .i64 (ws.length : Int) (ws.length : Int) (by omega) (by omega) (by rw [hy1]; omega) (by rw [hy2]; omega) (by omega)
    rw [hy1, Int.toNat_natCast, Nat.mul_one] at this
    exact this
  have H0 := Aside0.mk h0
  have H1 := Aside0.mk h1
  clear h0 h1
  go_enter Try.func19, Try.ntmps19
  go_upto_region 1 with (fail)
  go_cut [7] (fun v7 wc => ZzRel st ws w v7 wc)
  case first =>
   go_region_law (refine step_app (hgd := by rfl) (ho := by rfl) (base := w.heap.size) (g0 := _) (c0 := c0) (A0 := A0) (ws := ws) (hs := by rfl) (hx := by rfl) (hown := ?c0) (hC := ?c1) (hn := hn) (hbase := ?c5) (h := ?_); (case c0 => (refine own_empty ?_ (by omega); repeat (first | exact blk_at (by simp) _ _ | refine blk_drew ?_ | refine blk_alloc ?_ _))); (case c1 => (refine Kd.C_below H0.out ?_; repeat (first | exact Below.refl _ _ | refine below_drew1 ?_ | refine below_alloc ?_ _))); (case c5 => (simp; omega)); intro g cap w3 hown' hgrow)
   all_goals
    go_wp2
    go_meet
   all_goals
    have hsz := hgrow.size
    simp at hsz
    apply ZzRel.mk'
    case ra => with_reducible exact blk_at (by simp) _ _
    case rb => repeat (with_reducible first | exact blk_at (by simp) _ _ | exact map_at (by simp) _ _ | refine blk_drew ?_ | refine blk_alloc ?_ _ | refine (hgrow.block _ (by first | (simp; done) | (simp; omega)) (by first | (simp; done) | (simp; omega))).trans ?_)
    case rc => repeat (with_reducible first | exact blk_at (by simp) _ _ | exact map_at (by simp) _ _ | refine blk_drew ?_ | refine blk_alloc ?_ _ | refine (hgrow.block _ (by first | (simp; done) | (simp; omega)) (by first | (simp; done) | (simp; omega))).trans ?_)
    case rd => repeat (with_reducible first | exact blk_at (by simp) _ _ | exact map_at (by simp) _ _ | refine blk_drew ?_ | refine blk_alloc ?_ _ | refine (hgrow.block _ (by first | (simp; done) | (simp; omega)) (by first | (simp; done) | (simp; omega))).trans ?_)
    case re => repeat (with_reducible first | exact hown' | refine World.ownsRow.alloc ?_ _)
    case rf => repeat (with_reducible first | exact Below.refl _ _ | refine below_drew1 ?_ | refine below_alloc ?_ _ | refine Below.grown ?_ hgrow (by first | (simp; done) | (simp; omega)) (by intro k hk; simp at hk; omega))
    case rg => omega
  case rest =>
    obtain ⟨T, S, M, G, NN, gc, rfl, HT, HS, HM, HN, HG, HB, bT, bS, bM, bN⟩ := hcut
    obtain ⟨tc, htc⟩ : ∃ tc, tabC (ws.length : Int) (.slice (some ⟨G, 0, none⟩) ws.length gc) (.slice (some ⟨NN, 0, none⟩) ws.length ws.length) M S = tc := ⟨_, rfl⟩
    have t4 : tc[4]? = some (.slice (some ⟨NN, 0, none⟩) ws.length ws.length) := by rw [← htc]; exact tab_4 _ _ _ _ _ _ _ _ _
    have t6 : tc[6]? = some (.map (some M)) := by rw [← htc]; exact tab_6 _ _ _ _ _ _ _ _ _
    have t11 : tc[11]? = some (.slice (some ⟨G, 0, none⟩) ws.length gc) := by rw [← htc]; exact tab_11 _ _ _ _ _ _ _ _ _
    have t14 : tc[14]? = some (.int .i64 (ws.length : Int)) := by rw [← htc]; exact tab_14 _ _ _ _ _ _ _ _ _
    have t39 : tc[39]? = some (.pointer (some ⟨S, 0, none⟩)) := by rw [← htc]; exact tab_39 _ _ _ _ _ _ _ _ _
    have t1 : tc[1]? = some (.bool false) := by rw [← htc]; exact tab_1 _ _ _ _ _ _ _ _ _
    have t2 : tc[2]? = some (.int .i64 0) := by rw [← htc]; exact tab_2 _ _ _ _ _ _ _ _ _
    have t13 : tc[13]? = some (.int .i64 0) := by rw [← htc]; exact tab_13 _ _ _ _ _ _ _ _ _
    rw [htc] at HT
    have TT := Aside0.mk (And.intro t4 (And.intro t6 (And.intro t11 (And.intro t14 (And.intro t39 (And.intro t1 (And.intro t2 t13)))))))
    have c4 : wc.cell? ⟨T, 4, none⟩ = some (.slice (some ⟨NN, 0, none⟩) ws.length ws.length) := by rw [blk_cell HT.out]; exact t4
    clear htc t4 t6 t11 t14 t39 t1 t2 t13
    go_upto_region 2 with (fail)
    go_wp2
    go_loopg [27] ws.length (fun kq v27 w' => ∃ (i : Nat) (cur : Array Value), v27 = .int .i64 (i : Int) ∧ Aside0 (i + kq = ws.length) ∧ Aside0 (w'.heap[T]? = some (.cells tc 94 (0, 0))) ∧ Aside0 (w'.heap[S]? = some (.cells st 65 (0, 0))) ∧ Aside0 (w'.heap[M]? = some (.map #[] 0)) ∧ Aside0 (w'.heap[NN]? = some (.cells cur 4 (0, 0))) ∧ Aside0 (cur.size = ws.length ∧ ∀ j < i, cur[j]? = some (.bool true)) ∧ Aside0 (w'.ownsRow w.heap.size 3 1 (.slice (some ⟨G, 0, none⟩) ws.length gc) ws.length (ws.map (Value.int .i64))) ∧ Aside0 (Below w.heap.size w w'))
    case atStart => exact ⟨0, _, rfl, ⟨by omega⟩, HT, HS, HM, HN, ⟨size_madeCells _ _, fun j hj => absurd hj (by omega)⟩, HG, HB⟩
    case round =>
      clear HT HS HM HN HG HB c4
      obtain ⟨i, cur, rfl, HK, HT, HS, HM, HN, HC, HG, HB⟩ := hrel
      have c4 : wr.cell? ⟨T, 4, none⟩ = some (.slice (some ⟨NN, 0, none⟩) ws.length ws.length) := by rw [blk_cell HT.out]; exact TT.out.1
      by_cases hi : i < ws.length
      · have p1 : decide ((i : Int) < (ws.length : Int)) = true := decide_eq_true (by omega)
        have f1 : wr.frozen? ⟨NN, i, none⟩ = false := blk_frozen HN.out i
        obtain ⟨x, hx⟩ : ∃ x, wr.cell? ⟨NN, i, none⟩ = some x := by rw [blk_cell HN.out]; exact ⟨cur[i]'(by have := HC.out.1; omega), by simp [HC.out.1, hi]⟩
        go_wp2
        go_roundg (gk - 1)
        case measure => have := HK.out; omega
        case rel =>
          have n1 : T ≠ NN := blk_ne' HT.out HN.out (by decide)
          have n2 : S ≠ NN := blk_ne' HS.out HN.out (by decide)
          have n3 : M ≠ NN := map_ne HM.out HN.out
          refine ⟨i + 1, cur.setIfInBounds i (.bool true), by go_num, ⟨by have := HK.out; omega⟩, ⟨blk_far HT.out n1 _⟩, ⟨blk_far HS.out n2 _⟩, ⟨(Below.heap_setCell wr ⟨NN, i, none⟩ _ M n3).trans HM.out⟩, ⟨blk_put HN.out i _ rfl⟩, ⟨⟨by simp [HC.out.1], fun j hj => ?_⟩⟩, ⟨own_move HG.out (fun k hk => Below.heap_setCell wr ⟨NN, i, none⟩ _ k (own_far HG.out HN.out (by decide) hk))⟩, ⟨HB.out.setCell (p := ⟨NN, i, none⟩) bN _⟩⟩
          rw [Array.getElem?_setIfInBounds]
          by_cases hij : i = j
          · rw [if_pos hij, if_pos (by rw [HC.out.1]; omega)]
          · rw [if_neg hij]
            exact HC.out.2 j (by omega)
      · have hin : i = ws.length := by have := HK.out; omega
        have p1 : decide ((i : Int) < (ws.length : Int)) = false := decide_eq_false (by omega)
        clear c4
        go_wp2
        go_loopg [39] cs.length (fun kq v39 w' => ∃ (j : Nat), v39 = .int .i64 (j : Int) ∧ Aside0 (j + kq = cs.length) ∧ Aside0 (w'.heap[T]? = some (.cells tc 94 (0, 0))) ∧ Aside0 (w'.heap[S]? = some (.cells st 65 (0, 0))) ∧ Aside0 (CfgMap w' M (cs.take j)) ∧ Aside0 (w'.heap[NN]? = some (.cells cur 4 (0, 0))) ∧ Aside0 (w'.ownsRow w.heap.size 3 1 (.slice (some ⟨G, 0, none⟩) ws.length gc) ws.length (ws.map (Value.int .i64))) ∧ Aside0 (∃ es ck, w'.heap[M]? = some (.map es ck)) ∧ Aside0 (Below w.heap.size w w'))
        case atStart => exact ⟨0, rfl, ⟨by omega⟩, HT, HS, ⟨CfgMap.made HM.out⟩, HN, HG, ⟨_, _, HM.out⟩, HB⟩
        case round =>
          clear HT HS HM HN HG HB
          obtain ⟨j, rfl, HJ, HT, HS, HM, HN, HG, HE, HB⟩ := hrel
          by_cases hj : j < cs.length
          · have p2 : decide ((j : Int) < (cs.length : Int)) = true := decide_eq_true (by omega)
            have HC1 := Kd.C_below H1.out HB.out
            obtain ⟨ad1, hA1, q0, q⟩ := at_cfg HC1 j hj cs[j] (List.getElem?_eq_getElem hj)
            subst hA1
            obtain ⟨cj, hcj⟩ : ∃ cj, cs[j] = cj := ⟨_, rfl⟩
            have htk : cs.take (j + 1) = cs.take j ++ [cj] := by rw [List.take_succ_eq_append_getElem hj, hcj]
            have HTK := Aside0.mk htk
            rw [hcj] at q
            have q1 : wr.cell? ⟨(ad1.add (j * 16)).block, (ad1.add (j * 16)).off + 1, none⟩ = some (.int .i64 0) := q 1 _ (by omega) rfl
            have q2 : wr.cell? ⟨(ad1.add (j * 16)).block, (ad1.add (j * 16)).off + 2, none⟩ = some (.int .i64 cj.1) := q 2 _ (by omega) rfl
            have q3 : wr.cell? ⟨(ad1.add (j * 16)).block, (ad1.add (j * 16)).off + 3, none⟩ = some (.int .i64 0) := q 3 _ (by omega) rfl
            have q4 : wr.cell? ⟨(ad1.add (j * 16)).block, (ad1.add (j * 16)).off + 4, none⟩ = some (.int .i64 0) := q 4 _ (by omega) rfl
            have q5 : wr.cell? ⟨(ad1.add (j * 16)).block, (ad1.add (j * 16)).off + 5, none⟩ = some (.bool false) := q 5 _ (by omega) rfl
            have q6 : wr.cell? ⟨(ad1.add (j * 16)).block, (ad1.add (j * 16)).off + 6, none⟩ = some (.slice none 0 0) := q 6 _ (by omega) rfl
            have q7 : wr.cell? ⟨(ad1.add (j * 16)).block, (ad1.add (j * 16)).off + 7, none⟩ = some (.slice none 0 0) := q 7 _ (by omega) rfl
            have q8 : wr.cell? ⟨(ad1.add (j * 16)).block, (ad1.add (j * 16)).off + 8, none⟩ = some (.slice none 0 0) := q 8 _ (by omega) rfl
            have q9 : wr.cell? ⟨(ad1.add (j * 16)).block, (ad1.add (j * 16)).off + 9, none⟩ = some (.bool false) := q 9 _ (by omega) rfl
            have q10 : wr.cell? ⟨(ad1.add (j * 16)).block, (ad1.add (j * 16)).off + 10, none⟩ = some (.int .i64 0) := q 10 _ (by omega) rfl
            have q11 : wr.cell? ⟨(ad1.add (j * 16)).block, (ad1.add (j * 16)).off + 11, none⟩ = some (.int .i64 0) := q 11 _ (by omega) rfl
            have q12 : wr.cell? ⟨(ad1.add (j * 16)).block, (ad1.add (j * 16)).off + 12, none⟩ = some (.int .i64 0) := q 12 _ (by omega) rfl
            have q13 : wr.cell? ⟨(ad1.add (j * 16)).block, (ad1.add (j * 16)).off + 13, none⟩ = some (.int .i64 cj.2) := q 13 _ (by omega) rfl
            have q14 : wr.cell? ⟨(ad1.add (j * 16)).block, (ad1.add (j * 16)).off + 14, none⟩ = some (.nilFunc) := q 14 _ (by omega) rfl
            have q15 : wr.cell? ⟨(ad1.add (j * 16)).block, (ad1.add (j * 16)).off + 15, none⟩ = some (.int .i64 0) := q 15 _ (by omega) rfl
            clear q HC1 htk hcj
            go_upto_region 10 with (fail)
            have HT2 := Aside0.mk (blk_alloc HT.out (.cells #[.string ⟨#[]⟩, .int .i64 0, .int .i64 cj.1, .int .i64 0, .int .i64 0, .bool false, .slice none 0 0, .slice none 0 0, .slice none 0 0, .bool false, .int .i64 0, .int .i64 0, .int .i64 0, .int .i64 cj.2, .nilFunc, .int .i64 0] 41))
            have HS2 := Aside0.mk (blk_alloc HS.out (.cells #[.string ⟨#[]⟩, .int .i64 0, .int .i64 cj.1, .int .i64 0, .int .i64 0, .bool false, .slice none 0 0, .slice none 0 0, .slice none 0 0, .bool false, .int .i64 0, .int .i64 0, .int .i64 0, .int .i64 cj.2, .nilFunc, .int .i64 0] 41))
            have HN2 := Aside0.mk (blk_alloc HN.out (.cells #[.string ⟨#[]⟩, .int .i64 0, .int .i64 cj.1, .int .i64 0, .int .i64 0, .bool false, .slice none 0 0, .slice none 0 0, .slice none 0 0, .bool false, .int .i64 0, .int .i64 0, .int .i64 0, .int .i64 cj.2, .nilFunc, .int .i64 0] 41))
            have HX2 := Aside0.mk (blk_new wr (.cells #[.string ⟨#[]⟩, .int .i64 0, .int .i64 cj.1, .int .i64 0, .int .i64 0, .bool false, .slice none 0 0, .slice none 0 0, .slice none 0 0, .bool false, .int .i64 0, .int .i64 0, .int .i64 0, .int .i64 cj.2, .nilFunc, .int .i64 0] 41))
            have HG2 := Aside0.mk (HG.out.alloc (.cells #[.string ⟨#[]⟩, .int .i64 0, .int .i64 cj.1, .int .i64 0, .int .i64 0, .bool false, .slice none 0 0, .slice none 0 0, .slice none 0 0, .bool false, .int .i64 0, .int .i64 0, .int .i64 0, .int .i64 cj.2, .nilFunc, .int .i64 0] 41))
            have HM2 : Aside0 (CfgMap (wr.alloc (.cells #[.string ⟨#[]⟩, .int .i64 0, .int .i64 cj.1, .int .i64 0, .int .i64 0, .bool false, .slice none 0 0, .slice none 0 0, .slice none 0 0, .bool false, .int .i64 0, .int .i64 0, .int .i64 0, .int .i64 cj.2, .nilFunc, .int .i64 0] 41)) M (cs.take j)) := ⟨HM.out.kept (by obtain ⟨es, ck, he⟩ := HE.out; rw [he, blk_alloc he])⟩
            have HE2 : Aside0 (∃ es ck, (wr.alloc (.cells #[.string ⟨#[]⟩, .int .i64 0, .int .i64 cj.1, .int .i64 0, .int .i64 0, .bool false, .slice none 0 0, .slice none 0 0, .slice none 0 0, .bool false, .int .i64 0, .int .i64 0, .int .i64 0, .int .i64 cj.2, .nilFunc, .int .i64 0] 41)).heap[M]? = some (.map es ck)) := ⟨by obtain ⟨es, ck, he⟩ := HE.out; exact ⟨es, ck, blk_alloc he _⟩⟩
            have HB2 := Aside0.mk (HB.out.alloc HB.out.size (.cells #[.string ⟨#[]⟩, .int .i64 0, .int .i64 cj.1, .int .i64 0, .int .i64 0, .bool false, .slice none 0 0, .slice none 0 0, .slice none 0 0, .bool false, .int .i64 0, .int .i64 0, .int .i64 0, .int .i64 cj.2, .nilFunc, .int .i64 0] 41))
            change Code.wp _ _ _ _ (wr.alloc (.cells #[.string ⟨#[]⟩, .int .i64 0, .int .i64 cj.1, .int .i64 0, .int .i64 0, .bool false, .slice none 0 0, .slice none 0 0, .slice none 0 0, .bool false, .int .i64 0, .int .i64 0, .int .i64 0, .int .i64 cj.2, .nilFunc, .int .i64 0] 41))
            generalize (wr.alloc (.cells #[.string ⟨#[]⟩, .int .i64 0, .int .i64 cj.1, .int .i64 0, .int .i64 0, .bool false, .slice none 0 0, .slice none 0 0, .slice none 0 0, .bool false, .int .i64 0, .int .i64 0, .int .i64 0, .int .i64 cj.2, .nilFunc, .int .i64 0] 41)) = w2 at HT2 HS2 HN2 HX2 HG2 HM2 HE2 HB2 ⊢
            generalize wr.heap.size = X at HX2 ⊢
            have c6 : w2.cell? ⟨T, 6, none⟩ = some (.map (some M)) := by rw [blk_cell HT2.out]; exact TT.out.2.1
            have y0 : w2.cell? ⟨X, 0, none⟩ = some (.string ⟨#[]⟩) := by rw [blk_cell HX2.out]; rfl
            have y1 : w2.cell? ⟨X, 1, none⟩ = some (.int .i64 0) := by rw [blk_cell HX2.out]; rfl
            have y2 : w2.cell? ⟨X, 2, none⟩ = some (.int .i64 cj.1) := by rw [blk_cell HX2.out]; rfl
            have y3 : w2.cell? ⟨X, 3, none⟩ = some (.int .i64 0) := by rw [blk_cell HX2.out]; rfl
            have y4 : w2.cell? ⟨X, 4, none⟩ = some (.int .i64 0) := by rw [blk_cell HX2.out]; rfl
            have y5 : w2.cell? ⟨X, 5, none⟩ = some (.bool false) := by rw [blk_cell HX2.out]; rfl
            have y6 : w2.cell? ⟨X, 6, none⟩ = some (.slice none 0 0) := by rw [blk_cell HX2.out]; rfl
            have y7 : w2.cell? ⟨X, 7, none⟩ = some (.slice none 0 0) := by rw [blk_cell HX2.out]; rfl
            have y8 : w2.cell? ⟨X, 8, none⟩ = some (.slice none 0 0) := by rw [blk_cell HX2.out]; rfl
            have y9 : w2.cell? ⟨X, 9, none⟩ = some (.bool false) := by rw [blk_cell HX2.out]; rfl
            have y10 : w2.cell? ⟨X, 10, none⟩ = some (.int .i64 0) := by rw [blk_cell HX2.out]; rfl
            have y11 : w2.cell? ⟨X, 11, none⟩ = some (.int .i64 0) := by rw [blk_cell HX2.out]; rfl
            have y12 : w2.cell? ⟨X, 12, none⟩ = some (.int .i64 0) := by rw [blk_cell HX2.out]; rfl
            have y13 : w2.cell? ⟨X, 13, none⟩ = some (.int .i64 cj.2) := by rw [blk_cell HX2.out]; rfl
            have y14 : w2.cell? ⟨X, 14, none⟩ = some (.nilFunc) := by rw [blk_cell HX2.out]; rfl
            have y15 : w2.cell? ⟨X, 15, none⟩ = some (.int .i64 0) := by rw [blk_cell HX2.out]; rfl
            clear q0 q1 q2 q3 q4 q5 q6 q7 q8 q9 q10 q11 q12 q13 q14 q15
            obtain ⟨w3, hrun, hM3, hg3⟩ := CfgMap.put (w := w2.drew) (HM2.out.kept rfl) (by simp; omega) cj
            rw [show ((cs.take j).length : Int) = (j : Int) by simp; omega] at hrun
            unfold cfgC at hrun
            have HM3 := Aside0.mk hM3
            have HG3 := Aside0.mk hg3
            clear hM3 hg3
            go_region
            go_wp2
            go_roundg (gk - 1)
            case measure => have := HJ.out; omega
            case rel =>
              obtain ⟨es, ck, he⟩ := HE2.out
              have nT : some T ≠ some M := fun e => map_ne he HT2.out (Option.some.inj e).symm
              have nS : some S ≠ some M := fun e => map_ne he HS2.out (Option.some.inj e).symm
              have nN : some NN ≠ some M := fun e => map_ne he HN2.out (Option.some.inj e).symm
              refine ⟨j + 1, by go_num, ⟨by have := HJ.out; omega⟩, ⟨blk_grown (blk_drew HT2.out) HG3.out nT⟩, ⟨blk_grown (blk_drew HS2.out) HG3.out nS⟩, ⟨by rw [HTK.out]; exact HM3.out⟩, ⟨blk_grown (blk_drew HN2.out) HG3.out nN⟩, ⟨own_move HG2.out (fun k hk => HG3.out.block k (own_lt HG2.out k hk) (fun e => own_farM HG2.out he hk (Option.some.inj e)))⟩, ⟨HM3.out.blk⟩, ⟨Below.grownM (below_drew1 HB2.out) HG3.out HB2.out.size bM⟩⟩
          · have hjn : j = cs.length := by have := HJ.out; omega
            have p2 : decide ((j : Int) < (cs.length : Int)) = false := decide_eq_false (by omega)
            have HM' := HM.out
            rw [hjn, List.take_length] at HM'
            have HM' := Aside0.mk HM'
            go_wp2
            go_ret
            obtain ⟨t4, t6, t11, t14, t39, t1, t2, t13⟩ := TT.out
            exact ⟨T, tc, rfl, ⟨S, M, NN, G, gc, bT, bS, bM, bN, HT.out, t4, t6, t11, t14, t39, HS.out, ⟨cur, HN.out, fun k hk => HC.out.2 k (by omega)⟩, HG.out, HM'.out⟩, t1, t2, t13, HB.out⟩

end Go.Proofs.Ytedknmaaaaomoaa.Hand
