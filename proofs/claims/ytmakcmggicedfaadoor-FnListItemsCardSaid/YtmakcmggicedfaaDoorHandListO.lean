/- Render: all lines of a list. -/
import Derived.Test.YtmakcmggicedfaaDoorHandListC
import Derived.Test.YtmakcmggicedfaaDoorHandListK
import Derived.Test.YtmakcmggicedfaaDoorShelf
import Derived.Deep.RegionHeld3
namespace Go.Proofs.YtmakcmggicedfaaDoor.Hand
open Go.RowKit Go.Proofs.YtmakcmggicedfaaDoorW.PrintWords Go.Proofs.YtmakcmggicedfaaDoor.Base
set_option linter.unusedVariables false
set_option linter.unusedSimpArgs false

def lvAt (xs : List (Int × ByteArray)) (i : Nat) : Int := (xs.getD i (0, ⟨#[]⟩)).1
def txAt (xs : List (Int × ByteArray)) (i : Nat) : ByteArray := (xs.getD i (0, ⟨#[]⟩)).2
def topF (i : Nat) : Bool := i == 0
def firstF (xs : List (Int × ByteArray)) (i : Nat) : Bool := i == 0 || decide (lvAt xs (i - 1) < lvAt xs i)
def lastF (xs : List (Int × ByteArray)) (i : Nat) : Bool := !moreL (lvs xs (i + 1)) (lvAt xs i)
def bottomF (xs : List (Int × ByteArray)) (i : Nat) : Bool := i + 1 == xs.length
/-- An item's line, and the line feed ahead of it. -/
def lineL (st : Sty) (xs : List (Int × ByteArray)) (i : Nat) : List UInt8 :=
  nlT i ++ prefL st.pre.data.toList st.vert.data.toList (blanks st.vert).data.toList (lvs xs (i + 1)) (lvAt xs i).toNat ++ (bulletOf st (topF i) (firstF xs i) (firstF xs i && lastF xs i) (lastF xs i) (bottomF xs i)).data.toList ++ [32] ++ (txAt xs i).data.toList
def renderL (st : Sty) (xs : List (Int × ByteArray)) : Nat → List UInt8
  | 0 => []
  | i + 1 => renderL st xs i ++ lineL st xs i

theorem blanks_size (s : ByteArray) : (blanks s).size ≤ s.size := by
  have h := rc_le s
  unfold blanks
  rw [size_list, Lib.repeatL_length]
  simp
  omega
/-- What render asks of a style. -/
structure StyOk (st : Sty) : Prop where
  single : st.single.size ≤ 1000000
  top : st.top.size ≤ 1000000
  first : st.first.size ≤ 1000000
  middle : st.middle.size ≤ 1000000
  bottom : st.bottom.size ≤ 1000000
  pre : st.pre.size ≤ 1000000
  vert : st.vert.size ≤ 1000000
  newline : st.newline.size ≤ 2147483647
  fmt : st.fmt = 0
def ItemsOk (xs : List (Int × ByteArray)) : Prop := ∀ x ∈ xs, 0 ≤ x.1 ∧ x.1 ≤ 1000 ∧ Flat x.2

theorem lineL_len (st : Sty) (xs : List (Int × ByteArray)) (i : Nat) (h : StyOk st) (hx : ItemsOk xs) : (lineL st xs i).length ≤ 1100000000 := by
  have hv := h.vert
  have hp := h.pre
  have hb := blanks_size st.vert
  have hl : (lvAt xs i).toNat ≤ 1000 ∧ (txAt xs i).size ≤ 1000000 := by
    unfold lvAt txAt
    by_cases hi : i < xs.length
    · have h1 : xs.getD i (0, ⟨#[]⟩) = xs[i] := by simp [List.getD, hi]
      rw [h1]
      obtain ⟨h2, h3, h4⟩ := hx xs[i] (List.getElem_mem hi)
      have := h4.size
      exact ⟨by omega, this⟩
    · have h1 : xs.getD i (0, ⟨#[]⟩) = (0, ⟨#[]⟩) := by simp [List.getD, List.getElem?_eq_none (show xs.length ≤ i by omega)]
      rw [h1]
      exact ⟨by simp, by show (0 : Nat) ≤ 1000000; omega⟩
  have h1 := prefL_len st.pre.data.toList st.vert.data.toList (blanks st.vert).data.toList (lvs xs (i + 1)) 1000000 (by rw [← size_list]; omega) (by rw [← size_list]; omega) (lvAt xs i).toNat
  have h2 := bulletOf_size st (topF i) (firstF xs i) (firstF xs i && lastF xs i) (lastF xs i) (bottomF xs i) h.single h.top h.first h.middle h.bottom
  have h3 : (nlT i).length ≤ 1 := by unfold nlT; split <;> simp
  have h4 : (lvAt xs i).toNat * 1000000 ≤ 1000 * 1000000 := Nat.mul_le_mul_right _ hl.1
  have h5 := hl.2
  unfold lineL
  rw [size_list] at h2 h5 hp
  simp only [List.length_append, List.length_singleton]
  omega
theorem renderL_len (st : Sty) (xs : List (Int × ByteArray)) (h : StyOk st) (hx : ItemsOk xs) : ∀ i, (renderL st xs i).length ≤ i * 1100000000
  | 0 => by simp [renderL]
  | i + 1 => by
    have h1 := renderL_len st xs h hx i
    have h2 := lineL_len st xs i h hx
    simp only [renderL, List.length_append]
    omega

theorem list_cell0 {w : World} {B L S : Nat} {ap : Int} {cvs css : ByteArray} {lv0 : Int} {st : Sty} {v : Value} {xs : List (Int × ByteArray)} (H : ListIn w B L S ap cvs css lv0 st v xs) : w.cell? ⟨L, 0, none⟩ = some (.int .i64 ap) ∧ w.cell? ⟨L, 3, none⟩ = some v := by
  obtain ⟨_, _, _, hL, _⟩ := H
  exact ⟨by rw [blk_cell hL]; rfl, by rw [blk_cell hL]; rfl⟩
/-- An item's cells. -/
theorem list_item {w : World} {B L S : Nat} {ap : Int} {cvs css : ByteArray} {lv0 : Int} {st : Sty} {ao : Option Addr} {c : Nat} {xs : List (Int × ByteArray)} (H : ListIn w B L S ap cvs css lv0 st (.slice ao xs.length c) xs) (i : Nat) (hi : i < xs.length) :
    ∃ a p, ao = some ⟨a, 0, none⟩ ∧ w.cell? ⟨a, i, none⟩ = some (.pointer (some ⟨p, 0, none⟩)) ∧ p < B ∧ w.cell? ⟨p, 0, none⟩ = some (.int .i64 (lvAt xs i)) ∧ w.heap[p]? = some (.cells #[.int .i64 (lvAt xs i), .string (txAt xs i)] 77 (0, 0)) ∧ a < B := by
  obtain ⟨_, _, _, _, ao2, c2, hv, hx⟩ := H
  simp only [Value.slice.injEq] at hv
  obtain ⟨rfl, _, rfl⟩ := hv
  obtain ⟨a, cur, fz, rfl, haB, hrow, hit⟩ := hx (by omega)
  have hg : xs.getD i (0, ⟨#[]⟩) = xs[i] := by simp [List.getD, hi]
  obtain ⟨p, hp, hc, hh⟩ := hit i xs[i] (List.getElem?_eq_getElem hi)
  unfold lvAt txAt
  rw [hg]
  exact ⟨a, p, rfl, by rw [Lib.cell_of_heap hrow]; exact hc, hp, by rw [blk_cell hh]; rfl, hh, haB⟩

set_option maxHeartbeats 4000000 in
set_option maxRecDepth 100000 in
theorem renderEnd (B b L : Nat) (l : List UInt8) (w : World) (h : Lib.IsBuilderF 73 5 B b (Lib.byteCells l) w) (hBw : B ≤ w.heap.size) :
    Calls Tryd.prog 51 #[.pointer (some ⟨L, 0, none⟩), .pointer (some ⟨b, 0, none⟩)] w fun e w' => e = .returned (.string ⟨l.toArray⟩) ∧ Below B w w' := by
  have HI := Aside0.mk h
  clear h
  go_enter Tryd.func51, Tryd.ntmps51
  go_wp2_with (go_at_call 67; refine (Tryd.Builder_String_any_k B b l _ HI.out hBw).mono ?_; rintro e w4 ⟨rfl, _, b4, _⟩)
  go_ret
  exact ⟨rfl, b4⟩
theorem bottomI (xs : List (Int × ByteArray)) (i : Nat) : bottomF xs i = ((i : Int) == (xs.length : Int) - 1) := by
  unfold bottomF
  rw [Bool.eq_iff_iff, beq_iff_eq, beq_iff_eq]
  omega
theorem hintZ (xs : List (Int × ByteArray)) : #[.bool true, .bool true, .bool false, .bool (!moreL (lvs xs 1) (lvAt xs 0)), .bool ((0 : Int) == (xs.length : Int) - 1)] = hintB (topF 0) (firstF xs 0) false (lastF xs 0) (bottomF xs 0) := by
  rw [bottomI]
  rfl
theorem hintS (xs : List (Int × ByteArray)) (j : Nat) : #[.bool false, .bool (decide (lvAt xs j < lvAt xs (j + 1))), .bool false, .bool (!moreL (lvs xs (j + 1 + 1)) (lvAt xs (j + 1))), .bool ((j : Int) + 1 == (xs.length : Int) - 1)] = hintB (topF (j + 1)) (firstF xs (j + 1)) false (lastF xs (j + 1)) (bottomF xs (j + 1)) := by
  rw [bottomI]
  rfl
theorem hint_new {w : World} {cs cs' : Array Value} (h : cs = cs') : ((w.alloc (.cells cs 80)).drew).heap[w.heap.size]? = some (.cells cs' 80 (0, 0)) := by
  subst h
  exact blk_drew (blk_new _ _)

/-- A store into a block that is neither the builder's nor its row's. -/
theorem isb_far {B b h : Nat} {bs : List Value} {w : World} {cs : Array Value} (hi : Lib.IsBuilderF 73 5 B b bs w) (hh : w.heap[h]? = some (.cells cs 80 (0, 0))) (hne : h ≠ b) (j : Nat) (u : Value) : Lib.IsBuilderF 73 5 B b bs (w.setCell ⟨h, j, none⟩ u) := by
  have key : ∀ p, Lib.BuilderAtF 73 5 B b p bs w → Lib.BuilderAtF 73 5 B b p bs (w.setCell ⟨h, j, none⟩ u) := by
    rintro p ⟨hB, v, hv, hown, hne2⟩
    refine ⟨hB, v, (Below.heap_setCell w ⟨h, j, none⟩ u b (Ne.symm hne)).trans hv, ?_, hne2⟩
    obtain ⟨h1, h2⟩ := hown
    refine ⟨h1, ?_⟩
    rcases h2 with h2 | ⟨g, cap, cur, fz, hv2, hg, hh2, r⟩
    · exact .inl h2
    · refine .inr ⟨g, cap, cur, fz, hv2, hg, (Below.heap_setCell w ⟨h, j, none⟩ u g ?_).trans hh2, r⟩
      rintro rfl
      rw [hh] at hh2
      simp only [Option.some.injEq, Obj.cells.injEq] at hh2
      exact absurd hh2.2.1 (by decide)
  rcases hi with h | h
  · exact .inl (key _ h)
  · exact .inr (key _ h)

set_option maxHeartbeats 3200000 in
set_option maxRecDepth 100000 in
theorem renderK (w : World) (L S : Nat) (lv0 : Int) (st : Sty) (v : Value) (xs : List (Int × ByteArray)) (H : ListIn w w.heap.size L S 0 ⟨#[]⟩ ⟨#[]⟩ lv0 st v xs) (hst : StyOk st) (hxs : xs.length ≤ 500) (hit : ItemsOk xs) (C : Nat) (hC : C ≤ L) :
    Calls Tryd.prog 26 #[.pointer (some ⟨L, 0, none⟩)] w fun e w' => e = .returned (.string ⟨(renderL st xs xs.length).toArray⟩) ∧ KeptB C L w w' ∧ ∃ c0 c1 c2, w'.heap[L]? = some (.cells #[c0, c1, c2, v, .int .i64 lv0, .pointer (some ⟨S, 0, none⟩)] 66 (0, 0)) := by
  have HL := Aside0.mk H
  have HS := Aside0.mk hst
  have HI := Aside0.mk hit
  have hLw : L < w.heap.size := H.1
  have hCw : C ≤ w.heap.size := by omega
  have HINIT := Aside0.mk (initForRenderK w w.heap.size L S 0 ⟨#[]⟩ ⟨#[]⟩ lv0 st v xs H (by omega) (fun x hx => ⟨(hit x hx).1, (hit x hx).2.1, (hit x hx).2.2.size⟩) hst.pre hst.vert hst.newline C hC hCw)
  clear H hst hit
  go_enter Tryd.func26, Tryd.ntmps26
  go_upto_region 3 with (go_at_call 47; refine HINIT.out.mono ?_; rintro e w1 ⟨rfl, ap, css, hap0, hap1, h1, b1⟩; have H1 := Aside0.mk h1; have B1 := Aside0.mk b1; clear h1 b1)
  clear HINIT HL
  have hsz1 : w.heap.size ≤ w1.heap.size := B1.out.2.1
  have H2 := Aside0.mk ((H1.out.mono hsz1).below (below_alloc (Below.refl _ _) (.cells #[.pointer none, .slice none 0 0] 73)))
  have B2 := Aside0.mk (B1.out.step hCw (below_alloc (Below.refl _ _) (.cells #[.pointer none, .slice none 0 0] 73)))
  have N2 := Aside0.mk (blk_new w1 (.cells #[.pointer none, .slice none 0 0] 73))
  have hsz2 : w1.heap.size < (w1.alloc (.cells #[.pointer none, .slice none 0 0] 73)).heap.size := by simp
  change Code.wp _ _ _ _ (w1.alloc (.cells #[.pointer none, .slice none 0 0] 73))
  obtain ⟨b, hbe⟩ : ∃ b, w1.heap.size = b := ⟨_, rfl⟩
  generalize (w1.alloc (.cells #[.pointer none, .slice none 0 0] 73)) = w2 at H2 B2 N2 hsz2 ⊢
  rw [hbe] at H2 N2 hsz2 hsz1 ⊢
  clear H1 B1 hbe
  have hCb : C ≤ b := by omega
  obtain ⟨ao, c, rfl⟩ : ∃ ao c, v = .slice ao xs.length c := by
    obtain ⟨_, _, _, _, ao, c, h, _⟩ := H2.out
    exact ⟨ao, c, h⟩
  obtain ⟨c0, _⟩ := list_cell0 H2.out
  obtain ⟨n, rfl⟩ := Int.eq_ofNat_of_zero_le hap0
  go_wp2_with (go_at_call 48; refine (Tryd.Builder_Grow_fresh b b n _ (Nat.le_refl _) N2.out (Nat.le_of_lt hsz2) (by omega)).mono ?_; rintro e w3 ⟨rfl, i3, b3⟩; have I3 : Aside0 (Lib.IsBuilderF 73 5 b b (Lib.byteCells []) w3) := ⟨Or.inr (Lib.BuilderAtF.of i3)⟩; have H3 := Aside0.mk (H2.out.below b3); have B3 := Aside0.mk (B2.out.on hCb hsz1 b3); have hsz3 : b < w3.heap.size := Nat.lt_of_lt_of_le hsz2 b3.size; obtain ⟨_, d3⟩ := list_cell0 H3.out; clear i3 b3)
  clear H2 B2 N2 c0 hsz2 d3
  generalize hcvs : blanks st.vert = cvs at H3
  have HCVS := Aside0.mk hcvs
  clear hcvs
  go_loopg [19] xs.length (fun kq v19 w' => ∃ (i : Nat), v19 = .int .i64 (i : Int) ∧ Aside0 (i + kq = xs.length) ∧ Aside0 (Lib.IsBuilderF 73 5 b b (Lib.byteCells (renderL st xs i)) w') ∧ Aside0 (Below b w3 w'))
  case atStart => exact ⟨0, rfl, ⟨by omega⟩, I3, ⟨Below.refl _ _⟩⟩
  case round =>
    clear I3
    obtain ⟨i, rfl, HK, I4, B4⟩ := hrel
    have hbr : b < wr.heap.size := Nat.lt_of_lt_of_le hsz3 B4.out.size
    have H4 := Aside0.mk (H3.out.below B4.out)
    obtain ⟨_, d3⟩ := list_cell0 H4.out
    by_cases hi : i < xs.length
    · obtain ⟨a, p, rfl, ca, hpb, cp, hp, hab⟩ := list_item H3.out i hi
      have HP := Aside0.mk hp
      have ca := (B4.out.cell (p := ⟨a, i, none⟩) hab).trans ca
      have cp := (B4.out.cell (p := ⟨p, 0, none⟩) hpb).trans cp
      clear hp
      have p1 : decide ((i : Int) < (xs.length : Int)) = true := decide_eq_true (by omega)
      go_upto_region 7 with (fail)
      have ew : IntKind.i64.wrap ((xs.length : Int) - 1) = (xs.length : Int) - 1 := Go.IntWalk.i64_in _ (by omega)
      have hb2 : b ≤ wr.heap.size := Nat.le_of_lt hbr
      go_cut [6] (fun v6 wc => ∃ h, v6 = .pointer (some ⟨h, 0, none⟩) ∧ b < h ∧ Aside0 (wc.heap[h]? = some (.cells (hintB (topF i) (firstF xs i) false (lastF xs i) (bottomF xs i)) 80 (0, 0))) ∧ Aside0 (Lib.IsBuilderF 73 5 b b (Lib.byteCells (renderL st xs i)) wc) ∧ Aside0 (Below b w3 wc))
      case first =>
        cases i with
        | zero =>
            refine wp_region_noPanic ?_
            refine wp_region_held_drew (S := fun w' => w'.cell? ⟨L, 3, none⟩ = some (.slice (some ⟨a, 0, none⟩) xs.length c) ∧ w'.cell? ⟨p, 0, none⟩ = some (.int .i64 (lvAt xs 0))) (by kernel_rfl) ?_ (fun hHeld => ?_)
            · try dsimp only
              go_keep
            refine wpAnyH_take (i := 0) (oi := _) (v := ?_) rfl (by kernel_rfl) (by kernel_rfl) (by kernel_rfl) (fun _ _ _ h => h) (Or.inl ⟨by kernel_rfl, ?_⟩) (by assumption) ?_
            rotate_left
            · intro w hSw; (try dsimp only at hSw); go_simp; (try with_reducible rfl)
            try simp only [Act.put, List.setIfInBounds_toArray, List.set_cons_zero, List.set_cons_succ]
            refine wpAnyH_take (i := 1) (oi := _) (v := ?_) rfl (by kernel_rfl) (by kernel_rfl) (by kernel_rfl) (fun _ _ _ h => h) (Or.inl ⟨by kernel_rfl, ?_⟩) (by assumption) ?_
            rotate_left
            · intro w hSw; (try dsimp only at hSw); go_simp; (try with_reducible rfl)
            try simp only [Act.put, List.setIfInBounds_toArray, List.set_cons_zero, List.set_cons_succ]
            refine wpAnyH_take (i := 2) (oi := _) (v := ?_) rfl (by kernel_rfl) (by kernel_rfl) (by kernel_rfl) (fun _ _ _ h => h) (Or.inl ⟨by kernel_rfl, ?_⟩) (by assumption) ?_
            rotate_left
            · intro w hSw; (try dsimp only at hSw); go_simp; (try with_reducible rfl)
            try simp only [Act.put, List.setIfInBounds_toArray, List.set_cons_zero, List.set_cons_succ]
            refine wpAnyH_take (i := 3) (oi := _) (v := ?_) rfl (by kernel_rfl) (by kernel_rfl) (by kernel_rfl) (fun _ _ _ h => h) (Or.inl ⟨by kernel_rfl, ?_⟩) (by assumption) ?_
            rotate_left
            · intro w hSw; (try dsimp only at hSw); go_simp; (try with_reducible rfl)
            try simp only [Act.put, List.setIfInBounds_toArray, List.set_cons_zero, List.set_cons_succ]
            refine wpAnyH_take (i := 4) (oi := _) (v := ?_) rfl (by kernel_rfl) (by kernel_rfl) (by kernel_rfl) (fun _ _ _ h => h) (Or.inl ⟨by kernel_rfl, ?_⟩) (by assumption) ?_
            rotate_left
            · intro w hSw; (try dsimp only at hSw); go_simp; (try with_reducible rfl)
            try simp only [Act.put, List.setIfInBounds_toArray, List.set_cons_zero, List.set_cons_succ]
            refine wpAnyH_take (i := 5) (oi := _) (v := undef) rfl (by kernel_rfl) (by kernel_rfl) (by kernel_rfl) (fun _ _ _ h => h) (Or.inr ⟨by kernel_rfl, rfl⟩) (by assumption) ?_
            try simp only [Act.put, List.setIfInBounds_toArray, List.set_cons_zero, List.set_cons_succ]
            refine wpAnyH_take (i := 6) (oi := _) (v := undef) rfl (by kernel_rfl) (by kernel_rfl) (by kernel_rfl) (fun _ _ _ h => h) (Or.inr ⟨by kernel_rfl, rfl⟩) (by assumption) ?_
            try simp only [Act.put, List.setIfInBounds_toArray, List.set_cons_zero, List.set_cons_succ]
            refine wpAnyH_take (i := 7) (oi := _) (v := undef) rfl (by kernel_rfl) (by kernel_rfl) (by kernel_rfl) (fun _ _ _ h => h) (Or.inr ⟨by kernel_rfl, rfl⟩) (by assumption) ?_
            try simp only [Act.put, List.setIfInBounds_toArray, List.set_cons_zero, List.set_cons_succ]
            refine wpAnyH_take (i := 8) (oi := _) (v := undef) rfl (by kernel_rfl) (by kernel_rfl) (by kernel_rfl) (fun _ _ _ h => h) (Or.inr ⟨by kernel_rfl, rfl⟩) (by assumption) ?_
            try simp only [Act.put, List.setIfInBounds_toArray, List.set_cons_zero, List.set_cons_succ]
            refine wpAnyH_take (i := 9) (oi := _) (v := undef) rfl (by kernel_rfl) (by kernel_rfl) (by kernel_rfl) (fun _ _ _ h => h) (Or.inr ⟨by kernel_rfl, rfl⟩) (by assumption) ?_
            try simp only [Act.put, List.setIfInBounds_toArray, List.set_cons_zero, List.set_cons_succ]
            refine wpAnyH_take (i := 10) (oi := _) (v := undef) rfl (by kernel_rfl) (by kernel_rfl) (by kernel_rfl) (fun _ _ _ h => h) (Or.inr ⟨by kernel_rfl, rfl⟩) (by assumption) ?_
            try simp only [Act.put, List.setIfInBounds_toArray, List.set_cons_zero, List.set_cons_succ]
            refine wpAnyH_take (i := 11) (oi := _) (v := undef) rfl (by kernel_rfl) (by kernel_rfl) (by kernel_rfl) (fun _ _ _ h => h) (Or.inr ⟨by kernel_rfl, rfl⟩) (by assumption) ?_
            try simp only [Act.put, List.setIfInBounds_toArray, List.set_cons_zero, List.set_cons_succ]
            refine wpAnyH_take (i := 12) (oi := _) (v := undef) rfl (by kernel_rfl) (by kernel_rfl) (by kernel_rfl) (fun _ _ _ h => h) (Or.inr ⟨by kernel_rfl, rfl⟩) (by assumption) ?_
            try simp only [Act.put, List.setIfInBounds_toArray, List.set_cons_zero, List.set_cons_succ]
            refine wpAnyH_take (i := 13) (oi := _) (v := undef) rfl (by kernel_rfl) (by kernel_rfl) (by kernel_rfl) (fun _ _ _ h => h) (Or.inr ⟨by kernel_rfl, rfl⟩) (by assumption) ?_
            try simp only [Act.put, List.setIfInBounds_toArray, List.set_cons_zero, List.set_cons_succ]
            refine wpAnyH_take (i := 14) (oi := _) (v := undef) rfl (by kernel_rfl) (by kernel_rfl) (by kernel_rfl) (fun _ _ _ h => h) (Or.inr ⟨by kernel_rfl, rfl⟩) (by assumption) ?_
            try simp only [Act.put, List.setIfInBounds_toArray, List.set_cons_zero, List.set_cons_succ]
            refine wpAnyH_take (i := 15) (oi := _) (v := undef) rfl (by kernel_rfl) (by kernel_rfl) (by kernel_rfl) (fun _ _ _ h => h) (Or.inr ⟨by kernel_rfl, rfl⟩) (by assumption) ?_
            try simp only [Act.put, List.setIfInBounds_toArray, List.set_cons_zero, List.set_cons_succ]
            refine wpAnyH_take (i := 16) (oi := _) (v := undef) rfl (by kernel_rfl) (by kernel_rfl) (by kernel_rfl) (fun _ _ _ h => h) (Or.inr ⟨by kernel_rfl, rfl⟩) (by assumption) ?_
            try simp only [Act.put, List.setIfInBounds_toArray, List.set_cons_zero, List.set_cons_succ]
            refine wpAnyH_take (i := 17) (oi := _) (v := undef) rfl (by kernel_rfl) (by kernel_rfl) (by kernel_rfl) (fun _ _ _ h => h) (Or.inr ⟨by kernel_rfl, rfl⟩) (by assumption) ?_
            try simp only [Act.put, List.setIfInBounds_toArray, List.set_cons_zero, List.set_cons_succ]
            refine wpAnyH_take (i := 18) (oi := _) (v := undef) rfl (by kernel_rfl) (by kernel_rfl) (by kernel_rfl) (fun _ _ _ h => h) (Or.inr ⟨by kernel_rfl, rfl⟩) (by assumption) ?_
            try simp only [Act.put, List.setIfInBounds_toArray, List.set_cons_zero, List.set_cons_succ]
            refine wpAnyH_take (i := 19) (oi := _) (v := undef) rfl (by kernel_rfl) (by kernel_rfl) (by kernel_rfl) (fun _ _ _ h => h) (Or.inr ⟨by kernel_rfl, rfl⟩) (by assumption) ?_
            try simp only [Act.put, List.setIfInBounds_toArray, List.set_cons_zero, List.set_cons_succ]
            refine wpAnyH_take (i := 20) (oi := _) (v := undef) rfl (by kernel_rfl) (by kernel_rfl) (by kernel_rfl) (fun _ _ _ h => h) (Or.inr ⟨by kernel_rfl, rfl⟩) (by assumption) ?_
            try simp only [Act.put, List.setIfInBounds_toArray, List.set_cons_zero, List.set_cons_succ]
            refine wpAnyH_take (i := 21) (oi := _) (v := ?_) rfl (by kernel_rfl) (by kernel_rfl) (by kernel_rfl) (fun _ _ _ h => h) (Or.inl ⟨by kernel_rfl, ?_⟩) (by assumption) ?_
            rotate_left
            · intro w hSw; (try dsimp only at hSw); go_simp; (try with_reducible rfl)
            try simp only [Act.put, List.setIfInBounds_toArray, List.set_cons_zero, List.set_cons_succ]
            refine wpAnyH_take (i := 22) (oi := _) (v := ?_) rfl (by kernel_rfl) (by kernel_rfl) (by kernel_rfl) (fun _ _ _ h => h) (Or.inl ⟨by kernel_rfl, ?_⟩) (by assumption) ?_
            rotate_left
            · intro w hSw; (try dsimp only at hSw); go_simp; (try with_reducible rfl)
            try simp only [Act.put, List.setIfInBounds_toArray, List.set_cons_zero, List.set_cons_succ]
            refine wpAnyH_take (i := 23) (oi := _) (v := ?_) rfl (by kernel_rfl) (by kernel_rfl) (by kernel_rfl) (fun _ _ _ h => h) (Or.inl ⟨by kernel_rfl, ?_⟩) (by assumption) ?_
            rotate_left
            · intro w hSw; (try dsimp only at hSw); go_simp; (try with_reducible rfl)
            try simp only [Act.put, List.setIfInBounds_toArray, List.set_cons_zero, List.set_cons_succ]
            refine wpAnyH_take (i := 24) (oi := _) (v := ?_) rfl (by kernel_rfl) (by kernel_rfl) (by kernel_rfl) (fun _ _ _ h => h) (Or.inl ⟨by kernel_rfl, ?_⟩) (by assumption) ?_
            rotate_left
            · intro w hSw; (try dsimp only at hSw); go_simp; (try with_reducible rfl)
            try simp only [Act.put, List.setIfInBounds_toArray, List.set_cons_zero, List.set_cons_succ]
            refine wpAnyH_take (i := 25) (oi := _) (v := ?_) rfl (by kernel_rfl) (by kernel_rfl) (by kernel_rfl) (fun _ _ _ h => h) (Or.inl ⟨by kernel_rfl, ?_⟩) (by assumption) ?_
            rotate_left
            · intro w hSw; (try dsimp only at hSw); go_simp; (try with_reducible rfl)
            try simp only [Act.put, List.setIfInBounds_toArray, List.set_cons_zero, List.set_cons_succ]
            refine wpAnyH_take (i := 26) (oi := _) (v := ?_) rfl (by kernel_rfl) (by kernel_rfl) (by kernel_rfl) (fun _ _ _ h => h) (Or.inl ⟨by kernel_rfl, ?_⟩) (by assumption) ?_
            rotate_left
            · intro w hSw; (try dsimp only at hSw); go_simp; (try with_reducible rfl)
            try simp only [Act.put, List.setIfInBounds_toArray, List.set_cons_zero, List.set_cons_succ]
            refine wpAnyH_take (i := 27) (oi := _) (v := ?_) rfl (by kernel_rfl) (by kernel_rfl) (by kernel_rfl) (fun _ _ _ h => h) (Or.inl ⟨by kernel_rfl, ?_⟩) (by assumption) ?_
            rotate_left
            · intro w hSw; (try dsimp only at hSw); go_simp; (try with_reducible rfl)
            try simp only [Act.put, List.setIfInBounds_toArray, List.set_cons_zero, List.set_cons_succ]
            refine wpAnyH_take (i := 30) (oi := _) (v := ?_) rfl (by kernel_rfl) (by kernel_rfl) (by kernel_rfl) (fun _ _ _ h => h) (Or.inl ⟨by kernel_rfl, ?_⟩) (by assumption) ?_
            rotate_left
            · intro w hSw; (try dsimp only at hSw); go_simp; (try with_reducible rfl)
            try simp only [Act.put, List.setIfInBounds_toArray, List.set_cons_zero, List.set_cons_succ]
            refine wpAnyH_take (i := 31) (oi := _) (v := ?_) rfl (by kernel_rfl) (by kernel_rfl) (by kernel_rfl) (fun _ _ _ h => h) (Or.inl ⟨by kernel_rfl, ?_⟩) (by assumption) ?_
            rotate_left
            · intro w hSw; (try dsimp only at hSw); go_simp; (try with_reducible rfl)
            try simp only [Act.put, List.setIfInBounds_toArray, List.set_cons_zero, List.set_cons_succ]
            refine wpAnyH_take (i := 32) (oi := _) (v := ?_) rfl (by kernel_rfl) (by kernel_rfl) (by kernel_rfl) (fun _ _ _ h => h) (Or.inl ⟨by kernel_rfl, ?_⟩) (by assumption) ?_
            rotate_left
            · intro w hSw; (try dsimp only at hSw); go_simp; (try with_reducible rfl)
            try simp only [Act.put, List.setIfInBounds_toArray, List.set_cons_zero, List.set_cons_succ]
            refine wpAnyH_take (i := 33) (oi := _) (v := ?_) rfl (by kernel_rfl) (by kernel_rfl) (by kernel_rfl) (fun _ _ _ h => h) (Or.inl ⟨by kernel_rfl, ?_⟩) (by assumption) ?_
            rotate_left
            · intro w hSw; (try dsimp only at hSw); go_simp; (try with_reducible rfl)
            try simp only [Act.put, List.setIfInBounds_toArray, List.set_cons_zero, List.set_cons_succ]
            refine wpAnyH_take (i := 34) (oi := _) (v := ?_) rfl (by kernel_rfl) (by kernel_rfl) (by kernel_rfl) (fun _ _ _ h => h) (Or.inl ⟨by kernel_rfl, ?_⟩) (by assumption) ?_
            rotate_left
            · intro w hSw; (try dsimp only at hSw); go_simp; (try with_reducible rfl)
            try simp only [Act.put, List.setIfInBounds_toArray, List.set_cons_zero, List.set_cons_succ]
            refine wpAnyH_take (i := 35) (oi := _) (v := ?_) rfl (by kernel_rfl) (by kernel_rfl) (by kernel_rfl) (fun _ _ _ h => h) (Or.inl ⟨by kernel_rfl, ?_⟩) (by assumption) ?_
            rotate_left
            · intro w hSw; (try dsimp only at hSw); go_simp; (try with_reducible rfl)
            try simp only [Act.put, List.setIfInBounds_toArray, List.set_cons_zero, List.set_cons_succ]
            refine wpAnyH_take (i := 36) (oi := _) (v := ?_) rfl (by kernel_rfl) (by kernel_rfl) (by kernel_rfl) (fun _ _ _ h => h) (Or.inl ⟨by kernel_rfl, ?_⟩) (by assumption) ?_
            rotate_left
            · intro w hSw; (try dsimp only at hSw); go_simp; (try with_reducible rfl)
            try simp only [Act.put, List.setIfInBounds_toArray, List.set_cons_zero, List.set_cons_succ]
            refine wpAnyH_take (i := 37) (oi := _) (v := ?_) rfl (by kernel_rfl) (by kernel_rfl) (by kernel_rfl) (fun _ _ _ h => h) (Or.inl ⟨by kernel_rfl, ?_⟩) (by assumption) ?_
            rotate_left
            · intro w hSw; (try dsimp only at hSw); go_simp; (try with_reducible rfl)
            try simp only [Act.put, List.setIfInBounds_toArray, List.set_cons_zero, List.set_cons_succ]
            refine wpAnyH_ready (rs := [28, 39]) (by kernel_rfl) (by simp) ?_
            refine AllReadyH.cons (o := _) rfl (fun K hK => ?_) ?_
            rotate_left
            refine AllReadyH.cons (o := _) rfl (fun K hK => ?_) AllReadyH.nil
            rotate_left
            · go_simp
              (go_at_call 49; refine (hasMore _ b L S n cvs css lv0 st (.slice (some ⟨a, 0, none⟩) xs.length c) xs ?hh (lvAt xs 0) 0 (by omega) (by omega)).mono ?_; (case hh => (with_reducible first | exact H4.out | exact H4.out.drew | exact H4.out.below ((Below.refl _ _).alloc hb2 _) | exact (H4.out.below ((Below.refl _ _).alloc hb2 _)).drew)); rintro e w' ⟨rfl, rfl⟩)
              refine hK.out _ _ ?_ (fun hHeld => ?_)
              · try dsimp only
                go_keep
              clear hK K
              try simp only [Act.put, List.setIfInBounds_toArray, List.set_cons_zero, List.set_cons_succ]
              refine wpAnyH_take (i := 29) (oi := _) (v := ?_) rfl (by kernel_rfl) (by kernel_rfl) (by kernel_rfl) (fun _ _ _ h => h) (Or.inl ⟨by kernel_rfl, ?_⟩) (by assumption) ?_
              rotate_left
              · intro w hSw; (try dsimp only at hSw); go_simp; (try with_reducible rfl)
              try simp only [Act.put, List.setIfInBounds_toArray, List.set_cons_zero, List.set_cons_succ]
              refine wpAnyH_take (i := 38) (oi := _) (v := ?_) rfl (by kernel_rfl) (by kernel_rfl) (by kernel_rfl) (fun _ _ _ h => h) (Or.inl ⟨by kernel_rfl, ?_⟩) (by assumption) ?_
              rotate_left
              · intro w hSw; (try dsimp only at hSw); go_simp; (try with_reducible rfl)
              try simp only [Act.put, List.setIfInBounds_toArray, List.set_cons_zero, List.set_cons_succ]
              refine wpAnyH_ready (rs := [39]) (by kernel_rfl) (by simp) ?_
              refine AllReadyH.cons (o := _) rfl (fun K hK => ?_) ?_
              rotate_left
              · exact AllReadyH.nil
              go_simp
              refine hK.out _ _ ?_ (fun hHeld => ?_)
              · try dsimp only
                go_keep
              clear hK K
              try simp only [Act.put, List.setIfInBounds_toArray, List.set_cons_zero, List.set_cons_succ]
              refine wpAnyH_ready (rs := [40]) (by kernel_rfl) (by simp) ?_
              refine AllReadyH.cons (o := _) rfl (fun K hK => ?_) ?_
              rotate_left
              · exact AllReadyH.nil
              go_simp
              refine hK.out _ _ ?_ (fun hHeld => ?_)
              · try dsimp only
                go_keep
              clear hK K
              try simp only [Act.put, List.setIfInBounds_toArray, List.set_cons_zero, List.set_cons_succ]
              refine wpAnyH_done (by kernel_rfl) ?_ _
              (refine NoPanic.normal ?_)
              go_wp2_with fail
              go_meet
              case rel => exact ⟨wr.heap.size, rfl, hbr, ⟨hint_new (hintZ xs)⟩, ⟨isb_keep I4.out (below_drew1 (below_alloc (Below.refl _ _) _))⟩, ⟨below_drew1 (B4.out.alloc hb2 _)⟩⟩
            · go_simp
              refine hK.out _ _ ?_ (fun hHeld => ?_)
              · try dsimp only
                go_keep
              clear hK K
              try simp only [Act.put, List.setIfInBounds_toArray, List.set_cons_zero, List.set_cons_succ]
              refine wpAnyH_ready (rs := [28]) (by kernel_rfl) (by simp) ?_
              refine AllReadyH.cons (o := _) rfl (fun K hK => ?_) ?_
              rotate_left
              · exact AllReadyH.nil
              go_simp
              (go_at_call 49; refine (hasMore _ b L S n cvs css lv0 st (.slice (some ⟨a, 0, none⟩) xs.length c) xs ?hk (lvAt xs 0) 0 (by omega) (by omega)).mono ?_; (case hk => (with_reducible first | exact H4.out | exact H4.out.drew | exact H4.out.below ((Below.refl _ _).alloc hb2 _) | exact (H4.out.below ((Below.refl _ _).alloc hb2 _)).drew)); rintro e w' ⟨rfl, rfl⟩)
              refine hK.out _ _ ?_ (fun hHeld => ?_)
              · try dsimp only
                go_keep
              clear hK K
              try simp only [Act.put, List.setIfInBounds_toArray, List.set_cons_zero, List.set_cons_succ]
              refine wpAnyH_take (i := 29) (oi := _) (v := ?_) rfl (by kernel_rfl) (by kernel_rfl) (by kernel_rfl) (fun _ _ _ h => h) (Or.inl ⟨by kernel_rfl, ?_⟩) (by assumption) ?_
              rotate_left
              · intro w hSw; (try dsimp only at hSw); go_simp; (try with_reducible rfl)
              try simp only [Act.put, List.setIfInBounds_toArray, List.set_cons_zero, List.set_cons_succ]
              refine wpAnyH_take (i := 38) (oi := _) (v := ?_) rfl (by kernel_rfl) (by kernel_rfl) (by kernel_rfl) (fun _ _ _ h => h) (Or.inl ⟨by kernel_rfl, ?_⟩) (by assumption) ?_
              rotate_left
              · intro w hSw; (try dsimp only at hSw); go_simp; (try with_reducible rfl)
              try simp only [Act.put, List.setIfInBounds_toArray, List.set_cons_zero, List.set_cons_succ]
              refine wpAnyH_ready (rs := [40]) (by kernel_rfl) (by simp) ?_
              refine AllReadyH.cons (o := _) rfl (fun K hK => ?_) ?_
              rotate_left
              · exact AllReadyH.nil
              go_simp
              refine hK.out _ _ ?_ (fun hHeld => ?_)
              · try dsimp only
                go_keep
              clear hK K
              try simp only [Act.put, List.setIfInBounds_toArray, List.set_cons_zero, List.set_cons_succ]
              refine wpAnyH_done (by kernel_rfl) ?_ _
              (refine NoPanic.normal ?_)
              go_wp2_with fail
              go_meet
              case rel => exact ⟨wr.heap.size, rfl, hbr, ⟨hint_new (hintZ xs)⟩, ⟨isb_keep I4.out (below_drew1 (below_alloc (Below.refl _ _) _))⟩, ⟨below_drew1 (B4.out.alloc hb2 _)⟩⟩
        | succ j =>
          obtain ⟨a2, p2, ha2, ca2, _, cp2, _, _⟩ := list_item H4.out j (by omega)
          simp only [Option.some.injEq, Addr.mk.injEq, and_true] at ha2
          subst ha2
          have ej : IntKind.i64.wrap ((j : Int) + 1 - 1) = (j : Int) := (Go.IntWalk.i64_in _ (by omega)).trans (by omega)
          have ej2 : IntKind.i64.wrap ((j : Int)) = (j : Int) := Go.IntWalk.i64_in _ (by omega)
          have bj1 : (0 : Int) ≤ (j : Int) := by omega
          have bj2 : (j : Int) < (xs.length : Int) := by omega
          go_region_held3 (fun w' => w'.cell? ⟨L, 3, none⟩ = some (.slice (some ⟨a, 0, none⟩) xs.length c) ∧ w'.cell? ⟨p, 0, none⟩ = some (.int .i64 (lvAt xs (j + 1))) ∧ w'.cell? ⟨a, j, none⟩ = some (.pointer (some ⟨p2, 0, none⟩)) ∧ w'.cell? ⟨p2, 0, none⟩ = some (.int .i64 (lvAt xs j)))
            (first | go_keep)
            (first | (go_at_call 49; refine (hasMore _ b L S n cvs css lv0 st (.slice (some ⟨a, 0, none⟩) xs.length c) xs ?hj (lvAt xs (j + 1)) (j + 1) (by omega) (by omega)).mono ?_; (case hj => (with_reducible first | exact H4.out | exact H4.out.drew | exact H4.out.below ((Below.refl _ _).alloc hb2 _) | exact (H4.out.below ((Below.refl _ _).alloc hb2 _)).drew)); rintro e w' ⟨rfl, rfl⟩))
          all_goals
            go_wp2_with fail
            go_meet
            case rel => exact ⟨wr.heap.size, rfl, hbr, ⟨hint_new (hintS xs j)⟩, ⟨isb_keep I4.out (below_drew1 (below_alloc (Below.refl _ _) _))⟩, ⟨below_drew1 (B4.out.alloc hb2 _)⟩⟩
      case rest =>
        clear I4 B4 H4 d3 ca cp ew hb2 hbr
        obtain ⟨h, rfl, hbh, HH, I5, B5⟩ := hcut
        go_upto_region 8 with (fail)
        go_cut [68] (fun v68 wc => v68 = .bool (firstF xs i && lastF xs i) ∧ Aside0 (wc.heap[h]? = some (.cells (hintB (topF i) (firstF xs i) false (lastF xs i) (bottomF xs i)) 80 (0, 0))) ∧ Aside0 (Lib.IsBuilderF 73 5 b b (Lib.byteCells (renderL st xs i)) wc) ∧ Aside0 (Below b w3 wc))
        case first =>
          have e1 : wc.cell? ⟨h, 1, none⟩ = some (.bool (firstF xs i)) := by rw [blk_cell HH.out]; rfl
          have e3 : wc.cell? ⟨h, 3, none⟩ = some (.bool (lastF xs i)) := by rw [blk_cell HH.out]; rfl
          cases hf : firstF xs i <;> cases hl : lastF xs i
          all_goals
            rw [hf] at e1
            rw [hl] at e3
            have HF := Aside0.mk hf
            have HLL := Aside0.mk hl
            clear hf hl
            go_wp2_with fail
            go_meet
            case rel => exact ⟨by rw [HF.out, HLL.out]; rfl, HH, I5, B5⟩
        case rest =>
          clear HH I5 B5
          obtain ⟨rfl, HH, I5, B5⟩ := hcut
          go_upto_if 68 with (fail)
          go_cut [] (fun wc => Aside0 (wc.heap[h]? = some (.cells (hintB (topF i) (firstF xs i) (firstF xs i && lastF xs i) (lastF xs i) (bottomF xs i)) 80 (0, 0))) ∧ Aside0 (Lib.IsBuilderF 73 5 b b (Lib.byteCells (renderL st xs i)) wc) ∧ Aside0 (Below b w3 wc))
          case first =>
            have f2 : wc.frozen? ⟨h, 2, none⟩ = false := blk_frozen HH.out 2
            have e2 : wc.cell? ⟨h, 2, none⟩ = some (.bool false) := by rw [blk_cell HH.out]; rfl
            cases ho : (firstF xs i && lastF xs i)
            · have HO := Aside0.mk ho
              clear ho
              go_wp2_with fail
              go_meet
              case rel => exact ⟨⟨by rw [HO.out]; exact HH.out⟩, I5, B5⟩
            · have HO := Aside0.mk ho
              clear ho
              go_wp2_with fail
              go_meet
              case rel => exact ⟨⟨by rw [HO.out]; exact blk_put HH.out 2 _ rfl⟩, ⟨isb_far I5.out HH.out (by omega) _ _⟩, ⟨B5.out.setCell (p := ⟨h, 2, none⟩) (Nat.le_of_lt hbh) _⟩⟩
          case rest =>
            clear HH I5 B5
            obtain ⟨HH, I5, B5⟩ := hcut
            have hwe : b < wc.heap.size := Nat.lt_of_lt_of_le hsz3 B5.out.size
            have H5 := Aside0.mk (H3.out.below B5.out)
            have hx0 : xs.getD i (0, ⟨#[]⟩) = xs[i] := by simp [List.getD, hi]
            have hx1 := HI.out xs[i] (List.getElem_mem hi)
            rw [← hx0] at hx1
            have hlv0 : 0 ≤ lvAt xs i := hx1.1
            have hlv1 : lvAt xs i ≤ 1000 := hx1.2.1
            have hfl : Flat (txAt xs i) := hx1.2.2
            have HP2 := Aside0.mk ((B5.out.block p hpb).trans HP.out)
            have hrl := renderL_len st xs HS.out HI.out i
            have hz8 : cvs.size ≤ 1000000 := by have := blanks_size st.vert; have := HS.out.vert; rw [← HCVS.out]; omega
            obtain ⟨m, hm⟩ := Int.eq_ofNat_of_zero_le hlv0
            have hm : lvAt xs i = (m : Int) := hm
            have hline : renderL st xs i ++ nlT i ++ prefL st.pre.data.toList st.vert.data.toList cvs.data.toList (lvs xs (i + 1)) m ++ (bulletOf st (topF i) (firstF xs i) (firstF xs i && lastF xs i) (lastF xs i) (bottomF xs i)).data.toList ++ [32] ++ (txAt xs i).data.toList = renderL st xs (i + 1) := by
              rw [renderL, lineL, hm, Int.toNat_natCast, HCVS.out]
              simp only [List.append_assoc]
            have HLINE := Aside0.mk hline
            have hP2 := HP2.out
            rw [hm] at hP2
            have e0 : wc.cell? ⟨h, 0, none⟩ = some (.bool (topF i)) := by rw [blk_cell HH.out]; rfl
            have e1 : wc.cell? ⟨h, 1, none⟩ = some (.bool (firstF xs i)) := by rw [blk_cell HH.out]; rfl
            have e2 : wc.cell? ⟨h, 2, none⟩ = some (.bool (firstF xs i && lastF xs i)) := by rw [blk_cell HH.out]; rfl
            have e3 : wc.cell? ⟨h, 3, none⟩ = some (.bool (lastF xs i)) := by rw [blk_cell HH.out]; rfl
            have e4 : wc.cell? ⟨h, 4, none⟩ = some (.bool (bottomF xs i)) := by rw [blk_cell HH.out]; rfl
            have RI := Aside0.mk (renderItem wc b L S b n cvs css lv0 st (.slice (some ⟨a, 0, none⟩) xs.length c) xs H5.out (renderL st xs i) I5.out (Nat.le_of_lt hwe) hwe HS.out.single HS.out.top HS.out.first HS.out.middle HS.out.bottom HS.out.pre HS.out.vert hz8 HS.out.fmt (by omega) i m p (txAt xs i) (by omega) (by omega) (by omega) hpb hP2 hfl (topF i) (firstF xs i) (firstF xs i && lastF xs i) (lastF xs i) (bottomF xs i))
            clear hP2 hline hm hx0 hx1 hrl hlv0 hlv1 hz8
            generalize topF i = ft at *
            generalize firstF xs i = ff at *
            generalize lastF xs i = fl at *
            generalize bottomF xs i = fb at *
            generalize (ff && fl) = fo at *
            go_wp2_with (go_at_call 50; refine RI.out.mono ?_; rintro e w6 ⟨rfl, i6, b6⟩; rw [HLINE.out] at i6; have I6 := Aside0.mk i6; have B6 := Aside0.mk (B5.out.trans b6); clear i6 b6)
            go_roundg (gk - 1)
            case measure => have := HK.out; omega
            case rel => exact ⟨i + 1, by go_num, ⟨by have := HK.out; omega⟩, I6, B6⟩
    · have p1 : decide ((i : Int) < (xs.length : Int)) = false := decide_eq_false (by omega)
      have hin : i = xs.length := by have := HK.out; omega
      rw [hin] at I4
      go_wp2_with (go_at_call 51; refine (renderEnd b b L _ wr I4.out (Nat.le_of_lt hbr)).mono ?_; rintro e w7 ⟨rfl, b7⟩; have B7 := Aside0.mk b7; clear b7)
      go_ret
      obtain ⟨_, _, _, hLL, _⟩ := (H3.out.below B4.out).below B7.out
      exact ⟨rfl, (B3.out.on hCb hsz1 B4.out).on hCb hsz1 B7.out, _, _, _, hLL⟩
theorem render (w : World) (L S : Nat) (lv0 : Int) (st : Sty) (v : Value) (xs : List (Int × ByteArray)) (H : ListIn w w.heap.size L S 0 ⟨#[]⟩ ⟨#[]⟩ lv0 st v xs) (hst : StyOk st) (hxs : xs.length ≤ 500) (hit : ItemsOk xs) (C : Nat) (hC : C ≤ L) :
    Calls Tryd.prog 26 #[.pointer (some ⟨L, 0, none⟩)] w fun e w' => e = .returned (.string ⟨(renderL st xs xs.length).toArray⟩) ∧ Below C w w' :=
  (renderK w L S lv0 st v xs H hst hxs hit C hC).mono fun e w' h => ⟨h.1, h.2.1.1⟩
end Go.Proofs.YtmakcmggicedfaaDoor.Hand
