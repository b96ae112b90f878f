/- AppendItem, Indent, UnIndent of a list that a call makes. Indent of a list that a call makes. SetStyle of a list that a call makes. AppendItems. A style as the package has it. listOf: a new list behind steps (items, indents, un-indents). ListRender: what the steps of a new list made, in a style. -/
import Derived.Test.YtmakcmggicedfaaDoorHandListK
import Derived.Deep.AppendLies
import Derived.Deep.RegionLaw
import Derived.Test.YtmakcmggicedfaaDoorHandListA
import Derived.Handy
import Derived.Test.YtmakcmggicedfaaDoorHandT
import Derived.Test.YtmakcmggicedfaaDoorHandListO
namespace Go.Proofs.YtmakcmggicedfaaDoor.Hand
section
open Go.RowKit Go.Proofs.YtmakcmggicedfaaDoorW.PrintWords Go.Proofs.YtmakcmggicedfaaDoor.Base
set_option linter.unusedVariables false
set_option linter.unusedSimpArgs false

theorem own_ne {w : World} {base : Nat} {e : TypeId} {size n : Nat} {v : Value} {xs : List Value} {k : Nat} {cs : Array Value} {t : TypeId} {f : Nat × Nat} (hown : w.ownsRow base e size v n xs) (hk : w.heap[k]? = some (.cells cs t f)) (hne : t ≠ e) : some k ≠ v.ownBlock := by
  rcases hown.2 with ⟨rfl, _⟩ | ⟨g, cap, cur, rfl, _, hh, _⟩
  · simp [Value.ownBlock]
  · intro e
    have e : k = g := by simpa [Value.ownBlock] using e
    exact blk_ne' hk hh hne e
/-- The fields of a list ahead of its style. -/
def listC (v : Value) (lv : Int) : Array Value := #[.int .i64 0, .string ⟨#[]⟩, .string ⟨#[]⟩, v, .int .i64 lv, .pointer none]

set_option maxHeartbeats 8000000 in
set_option maxRecDepth 100000 in
theorem appendItem (base L : Nat) (lv : Int) (s : ByteArray) (hs : Flat s) (w : World) (v : Value) (xs : List (Int × ByteArray)) (h1 : w.heap[L]? = some (.cells (listC v lv) 66 (0, 0))) (h2 : ItemsOwn w base v xs) (hbL : base ≤ L) (hbw : base ≤ w.heap.size) (hlen : xs.length ≤ 1000000) :
    Calls Tryd.prog 41 #[.pointer (some ⟨L, 0, none⟩), .iface 9 (.string s)] w fun e w' => ∃ v', e = .returned (.tuple #[]) ∧ w'.heap[L]? = some (.cells (listC v' lv) 66 (0, 0)) ∧ ItemsOwn w' base v' (xs ++ [(lv, s)]) ∧ Below base w w' ∧ ∀ (k : Nat) (cs : Array Value) (tt : TypeId), w.heap[k]? = some (.cells cs tt (0, 0)) → k ≠ L → tt ≠ 75 → w'.heap[k]? = some (.cells cs tt (0, 0)) := by
  obtain ⟨i0, hi0, hz0, hz1, hz2⟩ := infoP
  have H1 := Aside0.mk h1
  have H2 := Aside0.mk h2
  have c3 : w.cell? ⟨L, 3, none⟩ = some v := by rw [blk_cell h1]; rfl
  have c4 : w.cell? ⟨L, 4, none⟩ = some (.int .i64 lv) := by rw [blk_cell h1]; rfl
  clear h1 h2
  go_enter Tryd.func41, Tryd.ntmps41
  go_region_law (first
    | (go_simp; go_at_call 53; refine (analyze L lv s hs _ (by exact c4)).mono ?_; rintro e w2 ⟨p, rfl, hp1, hp2, hp3⟩; have I2 := (ItemsOwn.drew H2.out).below hp3; have L2 := Aside0.mk (blk_below (blk_drew H1.out) hp3); have P2 := Aside0.mk hp2; have B2 := Aside0.mk hp3; have hwp : base ≤ p := Nat.le_trans hbw hp1; have hb2 : base ≤ w2.heap.size := Nat.le_trans hbw hp3.size; obtain ⟨ps, hpl, hown, hit⟩ := I2; have OWN := Aside0.mk hown; have IT := Aside0.mk hit; have k3 := (hp3.cell (World.block_lt_of_cell? _ _ c3)).trans c3; have k3a : (w2.alloc (Obj.cells #[.pointer (some ⟨p, 0, none⟩)] 75)).cell? ⟨L, 3, none⟩ = some v := (by rw [blk_cell (blk_alloc L2.out _)]; rfl); clear hown hit hp2 hp3 hp1)
    | (refine step_append_lies (hgd := by rfl) (s := .tmp 8) (x := .tmp 12) (t := 63) (ho := by rfl) (base := base) (e := 75) (i := i0) (z := .pointer none) (size := 1) (bytes := 8) (ht := Tryd.underlying63) (hi := hi0) (hz := hz0) (hsize := hz1) (hby := hz2) (hzs := by rfl) (hsz := by decide) (v := v) (n := xs.length) (xs := ps.map ptr) (hs := by first | rfl | simp [Act.eval, Act.put]) (hown := OWN.out.alloc _) (ad := ⟨w2.heap.size, 0, none⟩) (m := 1) (c := 1) (news := [ptr p]) (hx := by first | rfl | simp [Act.eval, Act.put]) (hl := by rfl) (hnews := ?c1) (h1 := ?c2) (hm := by omega) (h63 := ?c3) (hbytes := ?c4) (hbase := ?c5) (H := w2.heap.size + 1) (hH := ?c6) (h := ?_); (case c1 => (intro j u hj; match j, hj with | 0, hj => (simp at hj; subst hj; simp [Addr.add, ptr]))); (case c2 => (intro u hu; simp at hu; subst hu; rfl)); (case c3 => (unfold maxLen; omega)); (case c4 => omega); (case c5 => (simp; omega)); (case c6 => simp); intro g cap w3 hown' hgrow _ _
       have L3 := Aside0.mk (blk_grown (blk_alloc L2.out _) hgrow (own_ne OWN.out L2.out neLP)); have I3 := Aside0.mk (ItemsOwn.snoc (x := (lv, s)) (p := p) hpl (OWN.out.alloc _) (fun i q x h1 h2 => ⟨(IT.out i q x h1 h2).1, blk_alloc (IT.out i q x h1 h2).2 _⟩) (blk_alloc P2.out _) hwp hown' hgrow); have OW := Aside0.mk hown'; have HG := Aside0.mk hgrow
       have d3 : w3.cell? ⟨L, 3, none⟩ = some v := (by rw [blk_cell L3.out]; rfl); have f3 : w3.frozen? ⟨L, 3, none⟩ = false := blk_frozen L3.out 3; clear hown' hgrow k3 k3a))
  all_goals
    go_end0
    exact ⟨_, rfl, blk_put L3.out 3 _ rfl, I3.out.setFar L3.out neLP neLI _ _, ((((below_drew1 (Below.refl base w)).trans (B2.out.mono hbw)).alloc hb2 _).grown HG.out (by simp; omega) (own_base OWN.out)).setCell (p := ⟨L, 3, none⟩) hbL _, fun k cs tt hk hkL ht => blk_far (blk_grown (blk_alloc (blk_below (blk_drew hk) B2.out) _) HG.out (own_ne OWN.out (blk_below (blk_drew hk) B2.out) ht)) hkL _⟩

set_option maxHeartbeats 4000000 in
set_option maxRecDepth 100000 in
theorem unIndent (base L : Nat) (lv : Int) (w : World) (v : Value) (xs : List (Int × ByteArray)) (h1 : w.heap[L]? = some (.cells (listC v lv) 66 (0, 0))) (h2 : ItemsOwn w base v xs) (hbL : base ≤ L) (hlv : lv ≤ 1000000) :
    Calls Tryd.prog 44 #[.pointer (some ⟨L, 0, none⟩)] w fun e w' => e = .returned (.tuple #[]) ∧ w'.heap[L]? = some (.cells (listC v (if 0 < lv then lv - 1 else lv)) 66 (0, 0)) ∧ ItemsOwn w' base v xs ∧ Below base w w' := by
  have H1 := Aside0.mk h1
  have H2 := Aside0.mk h2
  have c4 : w.cell? ⟨L, 4, none⟩ = some (.int .i64 lv) := by rw [blk_cell h1]; rfl
  have f4 : w.frozen? ⟨L, 4, none⟩ = false := blk_frozen h1 4
  clear h1 h2
  by_cases hp : 0 < lv
  · rw [if_pos hp]
    have p1 : decide (0 < lv) = true := decide_eq_true hp
    have ew : IntKind.i64.wrap (lv - 1) = lv - 1 := Go.IntWalk.i64_in _ (by omega)
    go_enter Tryd.func44, Tryd.ntmps44
    go_wp2
    go_end0
    exact ⟨rfl, blk_put H1.out 4 _ rfl, H2.out.setFar H1.out neLP neLI _ _, (Below.refl base w).setCell (p := ⟨L, 4, none⟩) hbL _⟩
  · rw [if_neg hp]
    have p1 : decide (0 < lv) = false := decide_eq_false hp
    go_enter Tryd.func44, Tryd.ntmps44
    go_wp2
    go_end0
    exact ⟨rfl, H1.out, H2.out, Below.refl base w⟩
end

section
open Go.RowKit Go.Proofs.YtmakcmggicedfaaDoorW.PrintWords Go.Proofs.YtmakcmggicedfaaDoor.Base
set_option linter.unusedVariables false
set_option linter.unusedSimpArgs false

/-- The level behind an indent. -/
def indentLv (xs : List (Int × ByteArray)) (lv : Int) : Int := match xs.getLast? with | none => lv | some x => if x.1 < lv then lv else lv + 1

set_option maxHeartbeats 4000000 in
set_option maxRecDepth 100000 in
theorem indent (base L : Nat) (lv : Int) (w : World) (v : Value) (xs : List (Int × ByteArray)) (h1 : w.heap[L]? = some (.cells (listC v lv) 66 (0, 0))) (h2 : ItemsOwn w base v xs) (hbL : base ≤ L) (hlv0 : 0 ≤ lv) (hlv : lv ≤ 1000000) (hlen : xs.length ≤ 1000000) :
    Calls Tryd.prog 43 #[.pointer (some ⟨L, 0, none⟩)] w fun e w' => e = .returned (.tuple #[]) ∧ w'.heap[L]? = some (.cells (listC v (indentLv xs lv)) 66 (0, 0)) ∧ ItemsOwn w' base v xs ∧ Below base w w' := by
  have H1 := Aside0.mk h1
  have H2 := Aside0.mk h2
  have c3 : w.cell? ⟨L, 3, none⟩ = some v := by rw [blk_cell h1]; rfl
  have c4 : w.cell? ⟨L, 4, none⟩ = some (.int .i64 lv) := by rw [blk_cell h1]; rfl
  have f4 : w.frozen? ⟨L, 4, none⟩ = false := blk_frozen h1 4
  obtain ⟨ao, c, hv, hx⟩ := h2.toIn (Nat.le_refl _)
  clear h1 h2
  rcases List.eq_nil_or_concat xs with he | ⟨ys, x, he⟩
  · have hm : xs.length = 0 := by rw [he]; rfl
    have hi : indentLv xs lv = lv := by rw [he]; rfl
    rw [hm] at hv
    rw [hv] at c3
    rw [hi]
    clear hx
    go_enter Tryd.func43, Tryd.ntmps43
    go_wp2
    go_end0
    exact ⟨rfl, H1.out, H2.out, Below.refl base w⟩
  · obtain ⟨m, hm⟩ : ∃ m, xs.length = m := ⟨_, rfl⟩
    have hmn : m = ys.length + 1 := by rw [← hm, he]; simp
    obtain ⟨n, hn⟩ : ∃ n, ys.length = n := ⟨_, rfl⟩
    rw [hn] at hmn
    have hxs : xs[n]? = some x := by rw [he, ← hn]; simp
    have hi : indentLv xs lv = if x.1 < lv then lv else lv + 1 := by rw [he]; simp [indentLv]
    obtain ⟨a, cur, fz, rfl, haB, hrow, hit⟩ := hx (by omega)
    obtain ⟨p, hpB, hcr, hcp⟩ := hit n x hxs
    have hca : w.cell? ⟨a, n, none⟩ = some (.pointer (some ⟨p, 0, none⟩)) := by rw [Lib.cell_of_heap hrow]; exact hcr
    have hcx : w.cell? ⟨p, 0, none⟩ = some (.int .i64 x.1) := by rw [blk_cell hcp]; rfl
    obtain ⟨y, hy⟩ : ∃ y, x.1 = y := ⟨_, rfl⟩
    rw [hy] at hcx hi
    rw [hm] at hv
    subst hv
    rw [hi]
    have hml : m ≤ 1000000 := by omega
    have ew : IntKind.i64.wrap ((m : Int) - 1) = (n : Int) := (Go.IntWalk.i64_in _ (by omega)).trans (by omega)
    have p0 : ((m : Int) == 0) = false := by rw [beq_eq_false_iff_ne]; omega
    have b1 : (n : Int) < (m : Int) := by omega
    have b2 : decide ((n : Int) < (m : Int)) = true := decide_eq_true b1
    clear hx hit hcp hy hxs hrow hcr he hi hn hm hmn
    by_cases hl : y < lv
    · rw [if_pos hl]
      have p1 : decide (y < lv) = true := decide_eq_true hl
      go_enter Tryd.func43, Tryd.ntmps43
      go_upto_region 1 with (fail)
      go_region_with fail
      all_goals
        go_wp2
        go_end0
        exact ⟨rfl, H1.out, H2.out, below_drew1 (Below.refl base w)⟩
    · rw [if_neg hl]
      have p1 : decide (y < lv) = false := decide_eq_false hl
      have ew2 : IntKind.i64.wrap (lv + 1) = lv + 1 := Go.IntWalk.i64_in _ (by omega)
      go_enter Tryd.func43, Tryd.ntmps43
      go_upto_region 1 with (fail)
      go_region_with fail
      all_goals
        go_wp2
        go_end0
        exact ⟨rfl, blk_drew (blk_put H1.out 4 _ rfl), ItemsOwn.drew (H2.out.setFar H1.out neLP neLI _ _), below_drew1 ((Below.refl base w).setCell (p := ⟨L, 4, none⟩) hbL _)⟩
end

section
open Go.RowKit Go.Proofs.YtmakcmggicedfaaDoorW.PrintWords Go.Proofs.YtmakcmggicedfaaDoor.Base
set_option linter.unusedVariables false
set_option linter.unusedSimpArgs false

set_option maxHeartbeats 8000000 in
set_option maxRecDepth 100000 in
theorem setStyle (base L : Nat) (lv : Int) (st : Sty) (w : World) (v : Value) (xs : List (Int × ByteArray)) (h1 : w.heap[L]? = some (.cells (listC v lv) 66 (0, 0))) (h2 : ItemsOwn w base v xs) (hbL : base ≤ L) (hbw : base ≤ w.heap.size) :
    Calls Tryd.prog 24 #[.pointer (some ⟨L, 0, none⟩), .agg st.cells] w fun e w' => e = .returned (.tuple #[]) ∧ (∃ S, ListIn w' w'.heap.size L S 0 ⟨#[]⟩ ⟨#[]⟩ lv st v xs) ∧ Below base w w' := by
  have H1 := Aside0.mk h1
  have H2 := Aside0.mk h2
  have hLw := blk_lt h1
  clear h1 h2
  unfold Sty.cells
  go_enter Tryd.func24, Tryd.ntmps24
  go_upto_region 1 with (fail)
  have L1 : Aside0 ((w.alloc (.cells st.cells 54)).heap[L]? = some (.cells (listC v lv) 66 (0, 0))) := ⟨blk_alloc H1.out _⟩
  have S1 : Aside0 ((w.alloc (.cells st.cells 54)).heap[w.heap.size]? = some (.cells st.cells 54 (0, 0))) := ⟨blk_new _ _⟩
  have I1 : Aside0 (ItemsOwn (w.alloc (.cells st.cells 54)) base v xs) := ⟨H2.out.below (below_alloc (Below.refl _ _) _)⟩
  have B1 : Aside0 (Below base w (w.alloc (.cells st.cells 54))) := ⟨(Below.refl base w).alloc hbw _⟩
  change Code.wp _ _ _ _ (w.alloc (.cells st.cells 54))
  obtain ⟨S, hS⟩ : ∃ S, w.heap.size = S := ⟨_, rfl⟩
  rw [hS] at S1 ⊢
  generalize (w.alloc (.cells st.cells 54)) = w1 at L1 S1 I1 B1 ⊢
  have f5 : w1.frozen? ⟨L, 5, none⟩ = false := blk_frozen L1.out 5
  have c5 : w1.cell? ⟨L, 5, none⟩ = some (.pointer none) := by rw [blk_cell L1.out]; rfl
  go_wp2
  go_end0
  have hL2 : (w1.setCell ⟨L, 5, none⟩ (.pointer (some ⟨S, 0, none⟩))).heap[L]? = some (.cells #[.int .i64 0, .string ⟨#[]⟩, .string ⟨#[]⟩, v, .int .i64 lv, .pointer (some ⟨S, 0, none⟩)] 66 (0, 0)) := blk_put L1.out 5 _ rfl
  have hS2 : (w1.setCell ⟨L, 5, none⟩ (.pointer (some ⟨S, 0, none⟩))).heap[S]? = some (.cells st.cells 54 (0, 0)) := blk_far S1.out (Ne.symm (blk_ne' L1.out S1.out neLS)) _
  exact ⟨rfl, ⟨S, blk_lt hL2, blk_lt hS2, hS2, hL2, (I1.out.setFar L1.out neLP neLI _ _).toIn (Nat.le_refl _)⟩, B1.out.setCell (p := ⟨L, 5, none⟩) hbL _⟩
end

section
open Go.RowKit Go.Proofs.YtmakcmggicedfaaDoorW.PrintWords Go.Proofs.YtmakcmggicedfaaDoor.Base
set_option linter.unusedVariables false
set_option linter.unusedSimpArgs false

/-- Texts as interface values. -/
def anys (l : List ByteArray) : List Value := l.map fun s => .iface 9 (.string s)

set_option maxHeartbeats 8000000 in
set_option maxRecDepth 100000 in
theorem appendItems (base L : Nat) (lv : Int) (l : List ByteArray) (hs : ∀ s ∈ l, Flat s) (w : World) (v : Value) (xs : List (Int × ByteArray)) (h1 : w.heap[L]? = some (.cells (listC v lv) 66 (0, 0))) (h2 : ItemsOwn w base v xs) (hbL : base ≤ L) (hbw : base ≤ w.heap.size) (hlen : xs.length + l.length ≤ 1000000)
    (g c : Nat) (cur : Array Value) (hg : w.heap[g]? = some (.cells cur 20 (0, 0))) (hgL : g ≠ L) (hcur : ∀ (j : Nat) s, l[j]? = some s → cur[j]? = some (.iface 9 (.string s))) :
    Calls Tryd.prog 42 #[.pointer (some ⟨L, 0, none⟩), .slice (some ⟨g, 0, none⟩) l.length c] w fun e w' => ∃ v', e = .returned (.tuple #[]) ∧ w'.heap[L]? = some (.cells (listC v' lv) 66 (0, 0)) ∧ ItemsOwn w' base v' (xs ++ l.map fun s => (lv, s)) ∧ Below base w w' := by
  have H1 := Aside0.mk h1
  have H2 := Aside0.mk h2
  have HG := Aside0.mk hg
  have HC := Aside0.mk hcur
  have HS := Aside0.mk hs
  clear h1 h2 hg hcur hs
  go_enter Tryd.func42, Tryd.ntmps42
  go_wp2
  go_loopg [8] l.length (fun kq v8 w' => ∃ (i : Nat) (v1 : Value), v8 = .int .i64 (i : Int) ∧ Aside0 (i + kq = l.length) ∧ Aside0 (w'.heap[L]? = some (.cells (listC v1 lv) 66 (0, 0))) ∧ Aside0 (ItemsOwn w' base v1 (xs ++ (l.take i).map fun s => (lv, s))) ∧ Aside0 (w'.heap[g]? = some (.cells cur 20 (0, 0))) ∧ Aside0 (Below base w w'))
  case atStart => exact ⟨0, v, rfl, ⟨by omega⟩, H1, ⟨by simpa using H2.out⟩, HG, ⟨Below.refl _ _⟩⟩
  case round =>
    clear H1 H2 HG
    obtain ⟨i, v1, rfl, HK, H1, H2, HG, HB⟩ := hrel
    by_cases hi : i < l.length
    · have hc : wr.cell? ⟨g, i, none⟩ = some (.iface 9 (.string l[i])) := by rw [Lib.cell_of_heap HG.out]; exact HC.out i l[i] (List.getElem?_eq_getElem hi)
      have hfl := HS.out l[i] (List.getElem_mem hi)
      have htk : (xs ++ (l.take (i + 1)).map fun s => (lv, s)) = (xs ++ (l.take i).map fun s => (lv, s)) ++ [(lv, l[i])] := by
        rw [List.take_succ_eq_append_getElem hi, List.map_append, List.append_assoc]; rfl
      have HTK := Aside0.mk htk
      have hl2 : (xs ++ (l.take i).map fun s => (lv, s)).length ≤ 1000000 := by simp; omega
      have hbr := Nat.le_trans hbw HB.out.size
      have p1 : decide ((i : Int) < (l.length : Int)) = true := decide_eq_true (by omega)
      clear htk
      generalize l[i] = s at hc hfl HTK
      go_wp2_with (go_at_call 41; refine (appendItem base L lv s hfl _ v1 _ H1.out H2.out hbL hbr hl2).mono ?_; rintro e w2 ⟨v2, rfl, r1, r2, r3, r4⟩; have R1 := Aside0.mk r1; have R2 := Aside0.mk r2; have R3 := Aside0.mk (HB.out.trans r3); have R4 := Aside0.mk (r4 g _ _ HG.out hgL (by decide)); clear r1 r2 r3 r4)
      go_roundg (gk - 1)
      case measure => have := HK.out; omega
      case rel => exact ⟨i + 1, v2, by go_num, ⟨by have := HK.out; omega⟩, R1, ⟨by rw [HTK.out]; exact R2.out⟩, R4, R3⟩
    · have hin : i = l.length := by have := HK.out; omega
      have p1 : decide ((i : Int) < (l.length : Int)) = false := decide_eq_false (by omega)
      have H3 := H2.out
      rw [hin, List.take_length] at H3
      have H3 := Aside0.mk H3
      go_wp2
      go_end0
      exact ⟨v1, rfl, H1.out, H3.out, HB.out⟩

set_option maxHeartbeats 8000000 in
set_option maxRecDepth 100000 in
theorem appendItems0 (L : Nat) (w : World) : Calls Tryd.prog 42 #[.pointer (some ⟨L, 0, none⟩), .slice none 0 0] w fun e w' => e = .returned (.tuple #[]) ∧ w = w' := by
  go_enter Tryd.func42, Tryd.ntmps42
  go_wp2
  go_loopg [8] 0 (fun kq v8 w' => v8 = .int .i64 0 ∧ w = w')
  case atStart => exact ⟨rfl, rfl⟩
  case round =>
    obtain ⟨rfl, rfl⟩ := hrel
    go_wp2
    go_end0
    exact ⟨rfl, rfl⟩
def kAny : Kd ByteArray := Kd.scalar (fun s => .iface 9 (.string s)) (fun _ => rfl)
/-- .. of a row of the call's own. -/
theorem appendItemsR (base B2 L : Nat) (lv : Int) (l : List ByteArray) (hs : ∀ s ∈ l, Flat s) (w : World) (v u : Value) (xs : List (Int × ByteArray)) (h1 : w.heap[L]? = some (.cells (listC v lv) 66 (0, 0))) (h2 : ItemsOwn w base v xs) (hbL : base ≤ L) (hbw : base ≤ w.heap.size) (hlen : xs.length + l.length ≤ 1000000)
    (hu : kAny.R 20 w B2 (fun _ => True) u l) :
    Calls Tryd.prog 42 #[.pointer (some ⟨L, 0, none⟩), u] w fun e w' => ∃ v', e = .returned (.tuple #[]) ∧ w'.heap[L]? = some (.cells (listC v' lv) 66 (0, 0)) ∧ ItemsOwn w' base v' (xs ++ l.map fun s => (lv, s)) ∧ Below base w w' := by
  have ho := Kd.own_of_R hu
  obtain ⟨ho1, ho2⟩ := ho
  rcases ho2 with ⟨rfl, h0⟩ | ⟨g, cap, cur, rfl, hg, hh, h3, h4, h5, h6⟩
  · have hl : l = [] := List.eq_nil_of_length_eq_zero h0
    subst hl
    refine (appendItems0 L w).mono ?_
    rintro e w' ⟨rfl, rfl⟩
    exact ⟨v, rfl, h1, by simpa using h2, Below.refl _ _⟩
  · refine appendItems base L lv l hs w v xs h1 h2 hbL hbw hlen g cap cur hh (fun e => by subst e; exact blk_ne' hh h1 (by decide) rfl) (fun j s hj => ?_)
    have hlt : j < l.length := by
      rcases Nat.lt_or_ge j l.length with h | h
      · exact h
      · rw [List.getElem?_eq_none h] at hj; cases hj
    have := congrArg (fun z => z[j]?) h6
    simp only [Nat.mul_one] at this
    rw [List.getElem?_take_of_lt hlt] at this
    rw [← Array.getElem?_toList, this]
    simp [encs, hj]
end

section
open Go.RowKit Go.Proofs.YtmakcmggicedfaaDoorW.PrintWords Go.Proofs.YtmakcmggicedfaaDoor.Base
set_option linter.unusedVariables false

set_option maxHeartbeats 2000000 in
set_option maxRecDepth 100000 in
theorem listStyle (f : Int) (s1 s2 s3 s4 s5 s6 s7 s8 : ByteArray) (w : World) :
    Calls Tryd.prog 25 #[.agg #[.int .i64 f, .string s1, .string s2, .string s3, .string s4, .string s5, .string s6, .string s7, .string s8]] w fun e w' => e = .returned (.agg (Sty.cells ⟨f, s1, s2, s3, s4, s5, s6, s7, s8, ⟨#[]⟩⟩)) ∧ Below w.heap.size w w' := by
  go_enter Tryd.func25, Tryd.ntmps25
  go_wp2
  go_returns
  exact ⟨rfl, below_alloc (below_alloc (Below.refl _ _) _) _⟩
end

section
open Go.RowKit Go.Proofs.YtmakcmggicedfaaDoorW.PrintWords Go.Proofs.YtmakcmggicedfaaDoor.Base
set_option linter.unusedVariables false
set_option linter.unusedSimpArgs false

theorem infoAny : (Tryd.prog.info? 20).map (fun i => (i.zero, i.size, i.bytes)) = some (some .nilIface, kAny.sz, 16) := by kernel_rfl
instance (s : ByteArray) : Decidable (Flat s) :=
  decidable_of_iff ((9 : UInt8) ∉ s.data.toList ∧ (10 : UInt8) ∉ s.data.toList ∧ (13 : UInt8) ∉ s.data.toList ∧ s.size ≤ 1000000) ⟨fun ⟨a, b, c, d⟩ => ⟨a, b, c, d⟩, fun ⟨a, b, c, d⟩ => ⟨a, b, c, d⟩⟩

/-- The level and the items behind a step. -/
def stepL (lv : Int) (xs : List (Int × ByteArray)) (x : S38) : Option (Int × List (Int × ByteArray)) :=
  if x.f0 = 0 then (if Flat x.f1 ∧ xs.length < 500 then some (lv, xs ++ [(lv, x.f1)]) else none)
  else if x.f0 = 2 then (if lv < 1000 then some (indentLv xs lv, xs) else none)
  else if x.f0 = 3 then some (if 0 < lv then lv - 1 else lv, xs)
  else if x.f0 = 1 then (if (∀ s ∈ x.f2, Flat s) ∧ xs.length + x.f2.length < 500 then some (lv, xs ++ x.f2.map fun s => (lv, s)) else none)
  else none
def stepsL : List (S38) → Int → List (Int × ByteArray) → Option (Int × List (Int × ByteArray))
  | [], lv, xs => some (lv, xs)
  | x :: r, lv, xs => (stepL lv xs x).bind fun s => stepsL r s.1 s.2

theorem indentLv_bd {xs : List (Int × ByteArray)} {lv : Int} (h0 : 0 ≤ lv) (h1 : lv < 1000) : 0 ≤ indentLv xs lv ∧ indentLv xs lv ≤ 1000 := by
  unfold indentLv
  split
  · omega
  · split <;> omega
def LvOk (lv : Int) (xs : List (Int × ByteArray)) : Prop := 0 ≤ lv ∧ lv ≤ 1000 ∧ xs.length ≤ 500 ∧ ∀ x ∈ xs, 0 ≤ x.1 ∧ x.1 ≤ 1000 ∧ Flat x.2
theorem stepL_ok {lv lv' : Int} {xs xs' : List (Int × ByteArray)} {x : S38} (h : LvOk lv xs) (hs : stepL lv xs x = some (lv', xs')) : LvOk lv' xs' := by
  obtain ⟨h1, h2, h3, h4⟩ := h
  unfold stepL at hs
  split at hs
  · split at hs
    · rename_i hf
      simp only [Option.some.injEq, Prod.mk.injEq] at hs
      obtain ⟨rfl, rfl⟩ := hs
      refine ⟨h1, h2, by simp; omega, fun y hy => ?_⟩
      rcases List.mem_append.1 hy with hy | hy
      · exact h4 y hy
      · simp at hy
        subst hy
        exact ⟨h1, h2, hf.1⟩
    · cases hs
  · split at hs
    · split at hs
      · simp only [Option.some.injEq, Prod.mk.injEq] at hs
        obtain ⟨rfl, rfl⟩ := hs
        obtain ⟨a, b⟩ := indentLv_bd (xs := xs) h1 (by assumption)
        exact ⟨a, b, h3, h4⟩
      · cases hs
    · split at hs
      · simp only [Option.some.injEq, Prod.mk.injEq] at hs
        obtain ⟨rfl, rfl⟩ := hs
        refine ⟨?_, ?_, h3, h4⟩ <;> split <;> omega
      · split at hs
        · split at hs
          · rename_i hf
            simp only [Option.some.injEq, Prod.mk.injEq] at hs
            obtain ⟨rfl, rfl⟩ := hs
            refine ⟨h1, h2, by simp; omega, fun y hy => ?_⟩
            rcases List.mem_append.1 hy with hy | hy
            · exact h4 y hy
            · obtain ⟨s, hs, rfl⟩ := List.mem_map.1 hy
              exact ⟨h1, h2, hf.1 s hs⟩
          · cases hs
        · cases hs

set_option maxHeartbeats 8000000 in
set_option maxRecDepth 100000 in
theorem listOf (A0 : Option Addr) (c0 : Nat) (l : List (S38)) (lv1 : Int) (xs1 : List (Int × ByteArray)) (w : World) (hr0 : Kd.C k38 w A0 l.length l) (hl : l.length ≤ 1000000) (hst : stepsL l 0 [] = some (lv1, xs1)) :
    Calls Tryd.prog 23 #[.slice A0 l.length c0] w fun e w' => ∃ L v, e = .returned (.pointer (some ⟨L, 0, none⟩)) ∧ w.heap.size ≤ L ∧ LvOk lv1 xs1 ∧ w'.heap[L]? = some (.cells (listC v lv1) 66 (0, 0)) ∧ ItemsOwn w' w.heap.size v xs1 ∧ Below w.heap.size w w' := by
  have HR := Aside0.mk hr0
  have HST := Aside0.mk hst
  clear hr0 hst
  go_enter Tryd.func23, Tryd.ntmps23
  go_upto_region 2 with (fail)
  have L1 : Aside0 ((w.alloc (.cells (listC (.slice none 0 0) 0) 66)).heap[w.heap.size]? = some (.cells (listC (.slice none 0 0) 0) 66 (0, 0))) := ⟨blk_new _ _⟩
  have I1 : Aside0 (ItemsOwn (w.alloc (.cells (listC (.slice none 0 0) 0) 66)) w.heap.size (.slice none 0 0) []) := ⟨ItemsOwn.nil _ _⟩
  have B1 : Aside0 (Below w.heap.size w (w.alloc (.cells (listC (.slice none 0 0) 0) 66))) := ⟨below_alloc (Below.refl _ _) _⟩
  have hs1 : w.heap.size ≤ (w.alloc (.cells (listC (.slice none 0 0) 0) 66)).heap.size := B1.out.size
  change Code.wp _ _ _ _ (w.alloc (.cells (listC (.slice none 0 0) 0) 66))
  obtain ⟨L, hL⟩ : ∃ L, w.heap.size = L := ⟨_, rfl⟩
  generalize hW : (w.alloc (.cells (listC (.slice none 0 0) 0) 66)) = w1 at L1 I1 B1 hs1 ⊢
  clear hW
  have HR1 : Aside0 (Below w.heap.size w w) := ⟨Below.refl _ _⟩
  rw [hL] at L1 I1 B1 hs1 HR1 ⊢
  have hLw : w.heap.size ≤ L := by omega
  have HWL := Aside0.mk hL
  clear hL HR1
  go_wp2
  go_loopg [13] l.length (fun kq v13 w' => ∃ (i : Nat) (v : Value) (lv : Int) (xs : List (Int × ByteArray)), v13 = .int .i64 (i : Int) ∧ Aside0 (i + kq = l.length) ∧ Aside0 (stepsL (l.drop i) lv xs = some (lv1, xs1)) ∧ Aside0 (LvOk lv xs) ∧ Aside0 (w'.heap[L]? = some (.cells (listC v lv) 66 (0, 0))) ∧ Aside0 (ItemsOwn w' L v xs) ∧ Aside0 (Below L w w'))
  case atStart => exact ⟨0, _, 0, [], rfl, ⟨by omega⟩, ⟨by simpa using HST.out⟩, ⟨by omega, by omega, by simp, by simp⟩, L1, I1, B1⟩
  case round =>
    clear L1 I1 B1 HST hs1
    obtain ⟨i, v, lv, xs, rfl, HK, HST, HLV, H1, H2, HB⟩ := hrel
    by_cases hi : i < l.length
    · have hd : l.drop i = l[i] :: l.drop (i + 1) := List.drop_eq_getElem_cons hi
      have hst := HST.out
      rw [hd] at hst
      simp only [stepsL] at hst
      obtain ⟨⟨lv2, xs2⟩, hs2, hst2⟩ := Option.bind_eq_some_iff.mp hst
      have HST2 := Aside0.mk hst2
      have HLV2 := Aside0.mk (stepL_ok HLV.out hs2)
      have HC := Kd.C_below HR.out (HB.out.mono hLw)
      obtain ⟨ad, A2, c2, hA, q0, q1, q2, hlc, hC2⟩ := at_T38 HC (i : Int) (by omega) (by omega)
      subst hA
      have hrd : rd_T38 l (i : Int) = l[i] := by simp [rd_T38, List.getD, hi]
      rw [hrd] at q0 q1 q2 hlc hC2
      rw [Int.toNat_natCast] at q0 q1 q2
      generalize l[i] = x at hs2 q0 q1 q2 hlc hC2
      clear hd hst hst2 HC hrd HST
      have hL2 := Aside0.mk (Nat.le_of_lt (blk_lt H1.out))
      have p1 : decide ((i : Int) < (l.length : Int)) = true := decide_eq_true (by omega)
      have hbr : L ≤ wr.heap.size := hL2.out
      have hXL : wr.heap.size ≠ L := by have := blk_lt H1.out; omega
      go_upto_if 19 with (fail)
      have H1 := Aside0.mk (blk_alloc H1.out (.cells #[.int .i64 x.f0, .string x.f1, .slice A2 x.f2.length c2] 38))
      have H2 := Aside0.mk (H2.out.below (below_alloc (Below.refl _ _) (.cells #[.int .i64 x.f0, .string x.f1, .slice A2 x.f2.length c2] 38)))
      have HB := Aside0.mk (HB.out.alloc hbr (.cells #[.int .i64 x.f0, .string x.f1, .slice A2 x.f2.length c2] 38))
      have HX := Aside0.mk (blk_new wr (.cells #[.int .i64 x.f0, .string x.f1, .slice A2 x.f2.length c2] 38))
      have HC2 := Aside0.mk (Kd.C_below hC2 (below_alloc (Below.refl _ _) (.cells #[.int .i64 x.f0, .string x.f1, .slice A2 x.f2.length c2] 38)))
      have hbr2 : L ≤ (wr.alloc (.cells #[.int .i64 x.f0, .string x.f1, .slice A2 x.f2.length c2] 38)).heap.size := Nat.le_trans hbr (by simp)
      change Code.wp _ _ _ _ (wr.alloc (.cells #[.int .i64 x.f0, .string x.f1, .slice A2 x.f2.length c2] 38))
      generalize (wr.alloc (.cells #[.int .i64 x.f0, .string x.f1, .slice A2 x.f2.length c2] 38)) = w2 at H1 H2 HB HX HC2 hbr2 ⊢
      generalize wr.heap.size = X at HX hXL hbr ⊢
      clear q0 q1 q2 hL2
      unfold stepL at hs2
      have hl500 := HLV.out.2.2.1
      by_cases k0 : x.f0 = 0
      · rw [if_pos k0] at hs2
        have b0 : (x.f0 == 0) = true := beq_iff_eq.mpr k0
        clear k0
        by_cases hf : Flat x.f1 ∧ xs.length < 500
        · rw [if_pos hf] at hs2
          obtain ⟨hfl, _⟩ := hf
          simp only [Option.some.injEq, Prod.mk.injEq] at hs2
          have x1 : w2.cell? ⟨X, 1, none⟩ = some (.string x.f1) := by rw [blk_cell HX.out]; rfl
          generalize x.f1 = s at *
          obtain ⟨rfl, hxs2⟩ := hs2
          have HXS := Aside0.mk hxs2
          clear hxs2
          go_wp2_with (go_at_call 41; refine (appendItem L L _ s hfl _ v xs H1.out H2.out (Nat.le_refl _) hbr2 (by omega)).mono ?_; rintro e w3 ⟨v3, rfl, r1, r2, r3, _⟩; have R1 := Aside0.mk r1; have R2 := Aside0.mk r2; have R3 := Aside0.mk (HB.out.trans r3); clear r1 r2 r3)
          go_roundg (gk - 1)
          case measure => have := HK.out; omega
          case rel => exact ⟨i + 1, v3, _, xs2, by go_num, ⟨by have := HK.out; omega⟩, HST2, HLV2, R1, ⟨by rw [← HXS.out]; exact R2.out⟩, R3⟩
        · rw [if_neg hf] at hs2
          cases hs2
      · rw [if_neg k0] at hs2
        have b0 : (x.f0 == 0) = false := beq_eq_false_iff_ne.mpr k0
        by_cases k2 : x.f0 = 2
        · rw [if_pos k2] at hs2
          have b1 : (x.f0 == 1) = false := beq_eq_false_iff_ne.mpr (by omega)
          have b2 : (x.f0 == 2) = true := beq_iff_eq.mpr k2
          clear k0 k2
          by_cases hlt : lv < 1000
          · rw [if_pos hlt] at hs2
            simp only [Option.some.injEq, Prod.mk.injEq] at hs2
            obtain ⟨hlv2, rfl⟩ := hs2
            have HLE := Aside0.mk hlv2
            have h0 := HLV.out.1
            clear hlv2
            go_wp2_with (go_at_call 43; refine (indent L L lv _ v xs H1.out H2.out (Nat.le_refl _) h0 (by omega) (by omega)).mono ?_; rintro e w3 ⟨rfl, r1, r2, r3⟩; have R1 := Aside0.mk r1; have R2 := Aside0.mk r2; have R3 := Aside0.mk (HB.out.trans r3); clear r1 r2 r3)
            go_roundg (gk - 1)
            case measure => have := HK.out; omega
            case rel => exact ⟨i + 1, v, lv2, xs, by go_num, ⟨by have := HK.out; omega⟩, HST2, HLV2, ⟨by rw [← HLE.out]; exact R1.out⟩, R2, R3⟩
          · rw [if_neg hlt] at hs2
            cases hs2
        · rw [if_neg k2] at hs2
          by_cases k3 : x.f0 = 3
          · rw [if_pos k3] at hs2
            have b1 : (x.f0 == 1) = false := beq_eq_false_iff_ne.mpr (by omega)
            have b2 : (x.f0 == 2) = false := beq_eq_false_iff_ne.mpr (by omega)
            have b3 : (x.f0 == 3) = true := beq_iff_eq.mpr k3
            clear k0 k2 k3
            simp only [Option.some.injEq, Prod.mk.injEq] at hs2
            obtain ⟨hlv2, rfl⟩ := hs2
            have HLE := Aside0.mk hlv2
            have h0 := HLV.out.2.1
            clear hlv2
            go_wp2_with (go_at_call 44; refine (unIndent L L lv _ v xs H1.out H2.out (Nat.le_refl _) (by omega)).mono ?_; rintro e w3 ⟨rfl, r1, r2, r3⟩; have R1 := Aside0.mk r1; have R2 := Aside0.mk r2; have R3 := Aside0.mk (HB.out.trans r3); clear r1 r2 r3)
            go_roundg (gk - 1)
            case measure => have := HK.out; omega
            case rel => exact ⟨i + 1, v, lv2, xs, by go_num, ⟨by have := HK.out; omega⟩, HST2, HLV2, ⟨by rw [← HLE.out]; exact R1.out⟩, R2, R3⟩
          · rw [if_neg k3] at hs2
            by_cases k1 : x.f0 = 1
            · rw [if_pos k1] at hs2
              have b1 : (x.f0 == 1) = true := beq_iff_eq.mpr k1
              clear k0 k1 k2 k3
              by_cases hf : (∀ s ∈ x.f2, Flat s) ∧ xs.length + x.f2.length < 500
              · rw [if_pos hf] at hs2
                obtain ⟨hfl, hfn⟩ := hf
                simp only [Option.some.injEq, Prod.mk.injEq] at hs2
                have x2 : w2.cell? ⟨X, 2, none⟩ = some (.slice A2 x.f2.length c2) := by rw [blk_cell HX.out]; rfl
                have hl2 : x.f2.length ≤ 1000000 := by omega
                generalize x.f2 = ts at *
                obtain ⟨rfl, hxs2⟩ := hs2
                obtain ⟨GK, hGK⟩ : ∃ GK, GK = gk - 1 := ⟨_, rfl⟩
                have HGK := Aside0.mk hGK
                clear hGK
                have HXS := Aside0.mk hxs2
                have HFL := Aside0.mk hfl
                clear hxs2 hfl
                go_wp2
                go_loopg [6, 31] ts.length (fun jq v6 v31 w' => ∃ (j : Nat), v31 = .int .i64 (j : Int) ∧ Aside0 (j + jq = ts.length) ∧ Aside0 (kAny.R 20 w' w2.heap.size (fun _ => True) v6 (ts.take j)) ∧ Aside0 (Below w2.heap.size w2 w'))
                case atStart => exact ⟨0, rfl, ⟨by omega⟩, ⟨by simpa using Kd.R_nil _ _ _ _ _⟩, ⟨Below.refl _ _⟩⟩
                case round =>
                  obtain ⟨j, rfl, HJ, HR2, HB2⟩ := hrel
                  have hbr3 : w2.heap.size ≤ wr.heap.size := HB2.out.size
                  by_cases hj : j < ts.length
                  · have p2 : decide ((j : Int) < (ts.length : Int)) = true := decide_eq_true (by omega)
                    obtain ⟨ad3, eA, hs3⟩ := Kd.at_string (Kd.C_below HC2.out HB2.out) (j : Int) (by omega) (by omega)
                    subst eA
                    have hrs : rdOf ByteArray.empty ts (j : Int) = ts[j] := by simp [rdOf, List.getD, hj]
                    have HTJ := Aside0.mk (List.take_succ_eq_append_getElem hj)
                    (try simp only [Go.IntWalk.toNatUp] at hs3)
                    rw [hrs] at hs3
                    have hlj : (ts.take j).length = j := by simp; omega
                    generalize ts[j] = s at hs3 HTJ
                    clear hrs
                    go_wp2_with ((with_reducible refine gate_builtin (b := .append) (xs := #[.tmp 35, .tmp 38]) rfl ?_); at_builtin; refine Kd.R_append (d := kAny) (w0 := w2) (W := wr) w2.heap.size (by rfl) (.tmp 35) (.tmp 38) 68 20 .nilIface 16 (by rfl) Tryd.underlying68 infoAny (by rfl) (by decide) (by decide) u6 (ts.take j) s [.iface 9 (.string s)] (fun _ => True) (fun _ => False) (by rfl) (by rfl) (by rfl) (fun _ hk => hk.elim) (fun _ _ => trivial) HR2.out HB2.out hbr3 (by rw [hlj]; omega) ?_; intro v3 w3 ho hb hg hat; have R4 := Aside0.mk ho; have B4 := Aside0.mk hb; clear ho hb hg hat)
                    go_roundg (gk - 1)
                    case measure => have := HJ.out; omega
                    case rel => exact ⟨j + 1, by go_num, ⟨by have := HJ.out; omega⟩, ⟨by rw [HTJ.out]; exact R4.out⟩, B4⟩
                  · have hjn : j = ts.length := by have := HJ.out; omega
                    have p2 : decide ((j : Int) < (ts.length : Int)) = false := decide_eq_false (by omega)
                    have hR3 := HR2.out
                    rw [hjn, List.take_length] at hR3
                    have HR3 := Aside0.mk hR3
                    have H1' := Aside0.mk (blk_below H1.out HB2.out)
                    have H2' := Aside0.mk (H2.out.below HB2.out)
                    have HB' := Aside0.mk (HB.out.trans (HB2.out.mono hbr2))
                    have hbr4 : L ≤ wr.heap.size := Nat.le_trans hbr2 hbr3
                    clear hR3
                    go_wp2_with (go_at_call 42; refine (appendItemsR L w2.heap.size L _ ts HFL.out wr v u6 xs H1'.out H2'.out (Nat.le_refl _) hbr4 (by omega) HR3.out).mono ?_; rintro e w3 ⟨v3, rfl, r1, r2, r3⟩; have R1 := Aside0.mk r1; have R2 := Aside0.mk r2; have R3 := Aside0.mk (HB'.out.trans (r3.mono (Nat.le_refl _))); clear r1 r2 r3)
                    go_roundg GK
                    case measure => have := HK.out; have := HGK.out; omega
                    case rel => exact ⟨i + 1, v3, _, xs2, by go_num, ⟨by have := HK.out; have := HGK.out; omega⟩, HST2, HLV2, R1, ⟨by rw [← HXS.out]; exact R2.out⟩, R3⟩
              · rw [if_neg hf] at hs2
                cases hs2
            · rw [if_neg k1] at hs2
              cases hs2
    · have p1 : decide ((i : Int) < (l.length : Int)) = false := decide_eq_false (by omega)
      have hst := HST.out
      rw [List.drop_eq_nil_of_le (by omega)] at hst
      simp only [stepsL, Option.some.injEq, Prod.mk.injEq] at hst
      obtain ⟨rfl, rfl⟩ := hst
      clear HST
      go_wp2
      go_ret
      exact ⟨L, v, rfl, hLw, HLV.out, H1.out, by rw [HWL.out]; exact H2.out, by rw [HWL.out]; exact HB.out⟩
end

section
open Go.RowKit Go.Proofs.YtmakcmggicedfaaDoorW.PrintWords Go.Proofs.YtmakcmggicedfaaDoor.Base
set_option linter.unusedVariables false
set_option linter.unusedSimpArgs false

def emptyB : ByteArray := ⟨#[]⟩
/-- What is asked of a style: the default format, texts that are not too large. -/
def StyleOk (s0 : Int) (s1 s2 s3 s4 s5 s6 s7 s8 : ByteArray) : Prop := s0 = 0 ∧ s1.size ≤ 1000000 ∧ s2.size ≤ 1000000 ∧ s3.size ≤ 1000000 ∧ s4.size ≤ 1000000 ∧ s5.size ≤ 1000000 ∧ s6.size ≤ 1000000 ∧ s7.size ≤ 2147483647 ∧ s8.size ≤ 1000000
instance (s0 : Int) (s1 s2 s3 s4 s5 s6 s7 s8 : ByteArray) : Decidable (StyleOk s0 s1 s2 s3 s4 s5 s6 s7 s8) := by unfold StyleOk; infer_instance
theorem StyleOk.sty {s0 : Int} {s1 s2 s3 s4 s5 s6 s7 s8 nm : ByteArray} (h : StyleOk s0 s1 s2 s3 s4 s5 s6 s7 s8) : StyOk ⟨s0, s1, s2, s3, s4, s5, s6, s7, s8, nm⟩ := by
  obtain ⟨h0, h1, h2, h3, h4, h5, h6, h7, h8⟩ := h
  exact ⟨h1, h2, h3, h4, h6, h8, h5, h7, h0⟩
def impl_ListRender.f (l : List (S38)) (s0 : Int) (s1 s2 s3 s4 s5 s6 s7 s8 : ByteArray) : Option ByteArray :=
  if StyleOk s0 s1 s2 s3 s4 s5 s6 s7 s8 ∧ l.length ≤ 1000000 then (stepsL l 0 []).map fun s => ⟨(renderL ⟨s0, s1, s2, s3, s4, s5, s6, s7, s8, emptyB⟩ s.2 s.2.length).toArray⟩ else none

set_option maxHeartbeats 8000000 in
set_option maxRecDepth 100000 in
theorem impl_ListRender.calls (A0 : Option Addr) (c0 : Nat) (l : List (S38)) (s0 : Int) (s1 s2 s3 s4 s5 s6 s7 s8 : ByteArray) (r : ByteArray) (w : World) (hr0 : Kd.C k38 w A0 l.length l) (hc0 : l.length ≤ c0) (h : impl_ListRender.f l s0 s1 s2 s3 s4 s5 s6 s7 s8 = some r) :
    Calls Tryd.prog 11 #[.slice A0 l.length c0, .agg #[.int .i64 s0, .string s1, .string s2, .string s3, .string s4, .string s5, .string s6, .string s7, .string s8]] w fun e w' => e = .returned (.string r) ∧ Below w.heap.size w w' := by
  unfold impl_ListRender.f at h
  split at h
  case isFalse => cases h
  rename_i hz
  obtain ⟨hso, hl⟩ := hz
  obtain ⟨⟨lv, xs⟩, hs, hr⟩ := Option.map_eq_some_iff.mp h
  have HSO := Aside0.mk hso
  have HS := Aside0.mk hs
  have HR := Aside0.mk hr0
  have HRR := Aside0.mk hr
  clear hso hs hr0 h hr
  have hcs : (Sty.cells ⟨s0, s1, s2, s3, s4, s5, s6, s7, s8, ⟨#[]⟩⟩) = #[.int .i64 s0, .string s1, .string s2, .string s3, .string s4, .string s5, .string s6, .string s7, .string s8, .string ⟨#[]⟩] := rfl
  have HCS := Aside0.mk hcs
  clear hcs
  go_enter Tryd.func11, Tryd.ntmps11
  go_upto_region 1 with (fail)
  have HR1 := Aside0.mk (Kd.C_below HR.out (below_alloc (Below.refl _ _) (.cells #[.int .i64 s0, .string s1, .string s2, .string s3, .string s4, .string s5, .string s6, .string s7, .string s8] 24)))
  have B1 : Aside0 (Below w.heap.size w (w.alloc (.cells #[.int .i64 s0, .string s1, .string s2, .string s3, .string s4, .string s5, .string s6, .string s7, .string s8] 24))) := ⟨below_alloc (Below.refl _ _) _⟩
  have N1 := Aside0.mk (blk_new w (.cells #[.int .i64 s0, .string s1, .string s2, .string s3, .string s4, .string s5, .string s6, .string s7, .string s8] 24))
  change Code.wp _ _ _ _ (w.alloc (.cells #[.int .i64 s0, .string s1, .string s2, .string s3, .string s4, .string s5, .string s6, .string s7, .string s8] 24))
  obtain ⟨X, hX⟩ : ∃ X, w.heap.size = X := ⟨_, rfl⟩
  generalize (w.alloc (.cells #[.int .i64 s0, .string s1, .string s2, .string s3, .string s4, .string s5, .string s6, .string s7, .string s8] 24)) = w1 at HR1 B1 N1 ⊢
  have HX := Aside0.mk hX
  have hsz1 : X ≤ w1.heap.size := by rw [← hX]; exact B1.out.size
  rw [hX] at N1 ⊢
  clear hX
  go_wp2_with (first
    | (go_at_call 23; refine (listOf A0 c0 l lv xs w1 HR1.out hl HS.out).mono ?_; rintro e w2 ⟨L, v, rfl, hL, hok, h2, i2, b2⟩; have OK := Aside0.mk hok; have H2 := Aside0.mk h2; have I2 := Aside0.mk i2; have B2 := Aside0.mk b2; have N2 := Aside0.mk (blk_below N1.out b2); have q0 : w2.cell? ⟨X, 0, none⟩ = some (.int .i64 s0) := (by rw [blk_cell N2.out]; rfl); have q1 : w2.cell? ⟨X, 1, none⟩ = some (.string s1) := (by rw [blk_cell N2.out]; rfl); have q2 : w2.cell? ⟨X, 2, none⟩ = some (.string s2) := (by rw [blk_cell N2.out]; rfl); have q3 : w2.cell? ⟨X, 3, none⟩ = some (.string s3) := (by rw [blk_cell N2.out]; rfl); have q4 : w2.cell? ⟨X, 4, none⟩ = some (.string s4) := (by rw [blk_cell N2.out]; rfl); have q5 : w2.cell? ⟨X, 5, none⟩ = some (.string s5) := (by rw [blk_cell N2.out]; rfl); have q6 : w2.cell? ⟨X, 6, none⟩ = some (.string s6) := (by rw [blk_cell N2.out]; rfl); have q7 : w2.cell? ⟨X, 7, none⟩ = some (.string s7) := (by rw [blk_cell N2.out]; rfl); have q8 : w2.cell? ⟨X, 8, none⟩ = some (.string s8) := (by rw [blk_cell N2.out]; rfl); clear hok h2 i2 b2)
    | (go_at_call 25; refine (listStyle s0 s1 s2 s3 s4 s5 s6 s7 s8 _).mono ?_; rintro e w3 ⟨rfl, b3⟩; have H3 := Aside0.mk (blk_below H2.out b3); have I3 := Aside0.mk (I2.out.below b3); have B3 := Aside0.mk (B2.out.trans (b3.mono B2.out.size)); have hsz3 : w1.heap.size ≤ w3.heap.size := B3.out.size; clear b3 q0 q1 q2 q3 q4 q5 q6 q7 q8)
    | (go_at_call 24; refine (setStyle w1.heap.size L lv ⟨s0, s1, s2, s3, s4, s5, s6, s7, s8, ⟨#[]⟩⟩ w3 v xs H3.out I3.out hL hsz3).mono ?_; rintro e w4 ⟨rfl, ⟨S, h4⟩, b4⟩; have H4 := Aside0.mk h4; have B4 := Aside0.mk (B3.out.trans b4); clear h4 b4)
    | (go_at_call 26; refine (render w4 L S lv ⟨s0, s1, s2, s3, s4, s5, s6, s7, s8, ⟨#[]⟩⟩ v xs H4.out HSO.out.sty OK.out.2.2.1 OK.out.2.2.2 w1.heap.size hL).mono ?_; rintro e w5 ⟨rfl, b5⟩; have B5 := Aside0.mk (B4.out.trans b5); clear b5))
  go_ret
  refine ⟨ret_str HRR.out, ?_⟩
  rw [HX.out]
  have := B1.out
  rw [HX.out] at this
  exact this.trans (B5.out.mono hsz1)
end
end Go.Proofs.YtmakcmggicedfaaDoor.Hand
