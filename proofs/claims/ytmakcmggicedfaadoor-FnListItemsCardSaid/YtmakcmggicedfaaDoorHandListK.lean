/- What the writing methods of strings.Builder do to a builder that the call has made: the bytes grow; nothing else turns. What WriteRune does to a builder that the call has made: the rune's bytes go in behind. Items that a call lays one behind the other. What the searches answer where there is nothing to be found (printed by genF.py). Items appended to a list, and its indents. What renderItemBulletPrefix writes: the style's prefix, and for each level a connector or blanks. renderItemBulletPrefix leaves the blocks that are not the builder's (HandListB's walk, with that told). What renderItemBullet writes ahead of an item's first line: a bullet and a blank. renderItemBullet of an item's first line; the default format. renderItem: one item's line. -/
import Derived.Test.YtmakcmggicedfaaDoorShelf
import Derived.Test.YtmakcmggicedfaaDoorWMore
import Derived.Shelf.Strings.BuilderK
import Derived.BigCall
import Derived.Lib.RuneBytes
import Derived.Test.YtmakcmggicedfaaDoorHandListA
import Derived.Test.YtmakcmggicedfaaDoorPLzzSplitx1
import Derived.Test.YtmakcmggicedfaaDoorPLzzContainsx1
import Derived.Test.YtmakcmggicedfaaDoorPLzzReplaceAllx1
import Derived.Test.YtmakcmggicedfaaDoorPTzzContainsx1
import Derived.Test.YtmakcmggicedfaaDoorPTzzReplaceAllx1
import Derived.Test.YtmakcmggicedfaaDoorText
import Derived.Outline
namespace Go.Proofs.YtmakcmggicedfaaDoor.Hand
section
open Go.Shelf Go.RowKit Go.Proofs
set_option linter.unusedVariables false

set_option maxHeartbeats 2000000 in
set_option maxRecDepth 100000 in
/-- The builder's own check, at one that has been written. -/
theorem copyCheck_used (b : Nat) (w : World) (h0 : w.cell? ⟨b, 0, none⟩ = some (.pointer (some ⟨b, 0, none⟩))) :
    Calls Tryd.prog 57 #[.pointer (some ⟨b, 0, none⟩)] w fun e w' => e = .returned (.tuple #[]) ∧ w' = w := by
  obtain ⟨j, hj, _⟩ := Option.map_eq_some_iff.1 (show (Tryd.prog.info? 73).map (·.size) = some 2 by kernel_rfl)
  go_enter Tryd.func57, Tryd.ntmps57
  go_wp2
  rw [Lib.run_neq_ptr_same w _ Tryd.underlying70 hj]
  go_wp2
  go_end0
  exact ⟨rfl, rfl⟩

set_option maxHeartbeats 2000000 in
set_option maxRecDepth 100000 in
/-- The builder's own check, at a fresh one: it notes where it lies. -/
theorem copyCheck_fresh (b : Nat) (w : World) (h0 : w.cell? ⟨b, 0, none⟩ = some (.pointer none)) (hsh : w.shape? b = some (73, 2)) (hfz : w.frozen? ⟨b, 0, none⟩ = false) :
    Calls Tryd.prog 57 #[.pointer (some ⟨b, 0, none⟩)] w fun e w' => e = .returned (.tuple #[]) ∧ w' = w.setCell ⟨b, 0, none⟩ (.pointer (some ⟨b, 0, none⟩)) := by
  obtain ⟨j, hj, hjs⟩ := Option.map_eq_some_iff.1 (show (Tryd.prog.info? 73).map (·.size) = some 2 by kernel_rfl)
  go_enter Tryd.func57, Tryd.ntmps57
  go_wp2
  rw [Lib.run_to_unsafe w ⟨b, 0, none⟩ Tryd.underlying70 Tryd.underlying101 hj (by rw [hjs]; decide) hsh (Nat.zero_lt_succ 1)]
  simp only [Result.andThen]
  rw [Oper.upon_value]
  go_wp2
  rw [run_callFunc_extern Tryd.func73 (by kernel_rfl) (by kernel_rfl) (by kernel_rfl) (e := Extern.AbiNoEscape.same) (by kernel_rfl)]
  rw [Lib.run_noEscape]
  simp only [Result.andThen]
  rw [Oper.upon_value]
  go_wp2
  rw [Lib.run_from_unsafe w ⟨b, 0, none⟩ Tryd.underlying101 Tryd.underlying70 hj hsh (by kernel_rfl)]
  simp only [Result.andThen]
  rw [Oper.upon_value]
  go_wp2
  go_end0
  exact ⟨rfl, rfl⟩

theorem copyCheck (B b : Nat) (bs : List Value) (w : World) (h : Lib.IsBuilderF 73 5 B b bs w) :
    Calls Tryd.prog 57 #[.pointer (some ⟨b, 0, none⟩)] w fun e w' => e = .returned (.tuple #[]) ∧ (Lib.BuilderAtF 73 5 B b (.pointer (some ⟨b, 0, none⟩)) bs w' ∧ Below B w w' ∧ Lib.OthersKept 5 (some b) w w') := by
  rcases h with h | h
  · refine (copyCheck_fresh b w h.cell0 h.shape h.frozen0).mono ?_
    rintro e w' ⟨rfl, rfl⟩
    exact ⟨rfl, h.used _, (Below.refl B w).setCell (p := ⟨b, 0, none⟩) h.1 _, (Lib.OthersKept.refl _ _ w).setCell ⟨b, 0, none⟩ rfl _⟩
  · refine (copyCheck_used b w h.cell0).mono ?_
    rintro e w' ⟨rfl, rfl⟩
    exact ⟨rfl, h, Below.refl B _, Lib.OthersKept.refl _ _ _⟩

theorem infoU8 : ∃ i, Tryd.prog.info? 5 = some i ∧ i.zero = some (.int .u8 0) ∧ i.size = 1 ∧ i.bytes = 1 := by
  obtain ⟨i, hi, h⟩ := Option.map_eq_some_iff.1 (show (Tryd.prog.info? 5).map (fun i => (i.zero, i.size, i.bytes)) = some (some (.int .u8 0), 1, 1) by kernel_rfl)
  simp only [Prod.mk.injEq] at h
  exact ⟨i, hi, h.1, h.2.1, h.2.2⟩

set_option maxHeartbeats 4000000 in
set_option maxRecDepth 100000 in
/-- WriteString: the bytes are appended. -/
theorem writeString (B b : Nat) (bs : List Value) (s : ByteArray) (w : World) (h : Lib.IsBuilderF 73 5 B b bs w) (hlen : bs.length + s.size ≤ 140737488355328) (hBw : B ≤ w.heap.size) :
    Calls Tryd.prog 66 #[.pointer (some ⟨b, 0, none⟩), .string s] w fun e w' => e = .returned (.tuple #[.int .i64 s.size, .nilIface]) ∧ (Lib.BuilderAtF 73 5 B b (.pointer (some ⟨b, 0, none⟩)) (bs ++ Lib.strCells s) w' ∧ Below B w w' ∧ Lib.OthersKept 5 (some b) w w') := by
  obtain ⟨i0, hi, hz0, hz1, hz2⟩ := infoU8
  go_enter Tryd.func66, Tryd.ntmps66
  go_wp2_with (go_at_call 57; refine (copyCheck B b bs _ h).mono ?_)
  rintro e w1 ⟨rfl, h1, hb1, hk1⟩
  obtain ⟨hB, v, hbk, hown, hne⟩ := h1
  have c0 : w1.cell? ⟨b, 0, none⟩ = some (.pointer (some ⟨b, 0, none⟩)) := by rw [Lib.cell_of_heap hbk]; rfl
  have c1 : w1.cell? ⟨b, 1, none⟩ = some v := by rw [Lib.cell_of_heap hbk]; rfl
  go_wp2_with (at_builtin; refine Lib.wpList_append_own_stringF _ rfl _ _ 71 9 rfl B 5 i0 Tryd.underlying71 Tryd.underlying9 hi hz0 hz1 hz2 _ _ _ rfl hown s rfl ?c3 ?c4 ?c5 ?_)
  case c3 => unfold maxLen; omega
  case c4 => omega
  case c5 => have := hb1.size; omega
  intro v' w2 hown' hgrow _
  have hlt : b < w1.heap.size := by
    rcases Nat.lt_or_ge b w1.heap.size with h' | h'
    · exact h'
    · simp [Array.getElem?_eq_none h'] at hbk
  have hb2 : w2.heap[b]? = some (.cells #[.pointer (some ⟨b, 0, none⟩), v] 73 (0, 0)) := by
    rw [hgrow.block b hlt (fun e => hne e.symm)]
    exact hbk
  have d0 : w2.cell? ⟨b, 0, none⟩ = some (.pointer (some ⟨b, 0, none⟩)) := by rw [Lib.cell_of_heap hb2]; rfl
  have d1 : w2.cell? ⟨b, 1, none⟩ = some v := by rw [Lib.cell_of_heap hb2]; rfl
  have f1 : w2.frozen? ⟨b, 1, none⟩ = false := Lib.frozen_of_heap hb2 1
  obtain ⟨ao, n', cap, rfl⟩ : ∃ ao n' cap, v' = .slice ao n' cap := by
    rcases hown'.2 with ⟨hv, _⟩ | ⟨g, cap, cur, fz, hv, _⟩
    · exact ⟨_, _, _, hv⟩
    · exact ⟨_, _, _, hv⟩
  go_wp2
  go_ret2
  refine ⟨rfl, ?_, ?_, (hk1.grown hgrow (Lib.ownsRowF_kind hown)).setCell ⟨b, 1, none⟩ rfl _⟩
  · exact Lib.BuilderAtF.put (T := 73) (e := 5) hB hb2 (bs' := bs ++ Lib.strCells s) (by simpa [Lib.strCells_length] using hown') (by decide)
  · exact (hb1.grown hgrow (by have := hb1.size; omega) (fun k hk => (hown.lt k hk).1)).setCell (p := ⟨b, 1, none⟩) hB _
end

section
open Go.Shelf Go.RowKit Go.Proofs
set_option linter.unusedVariables false

set_option maxHeartbeats 4000000 in
set_option maxRecDepth 100000 in
theorem writeRune (B b : Nat) (bs : List Value) (r : Int) (hr0 : -2147483648 ≤ r) (hr1 : r ≤ 2147483647) (w : World) (h : Lib.IsBuilderF 73 5 B b bs w) (hlen : bs.length + 4 ≤ 140737488355328) (hBw : B ≤ w.heap.size) :
    Calls Tryd.prog 59 #[.pointer (some ⟨b, 0, none⟩), .int .i32 r] w fun e w' => e = .returned (.tuple #[.int .i64 (Lib.runeCells r).length, .nilIface]) ∧ (Lib.BuilderAtF 73 5 B b (.pointer (some ⟨b, 0, none⟩)) (bs ++ Lib.runeCells r) w' ∧ Below B w w' ∧ Lib.OthersKept 5 (some b) w w') := by
  have hk4 := Lib.runeCells_le r
  go_enter Tryd.func59, Tryd.ntmps59
  go_wp2_with (go_at_call 57; refine (copyCheck B b bs _ h).mono ?_)
  rintro e w1 ⟨rfl, h1, hb1, hk1⟩
  obtain ⟨hB, v, hbk, hown, hne⟩ := h1
  obtain ⟨ao, cap, rfl⟩ : ∃ ao cap, v = .slice ao bs.length cap := by
    rcases hown.2 with ⟨hv, h0⟩ | ⟨g, cap, cur, fz, hv, _⟩
    · exact ⟨none, 0, by rw [hv, h0]⟩
    · exact ⟨_, _, hv⟩
  have c0 : w1.cell? ⟨b, 0, none⟩ = some (.pointer (some ⟨b, 0, none⟩)) := by rw [Lib.cell_of_heap hbk]; rfl
  have c1 : w1.cell? ⟨b, 1, none⟩ = some (.slice ao bs.length cap) := by rw [Lib.cell_of_heap hbk]; rfl
  go_wp2_with (go_at_call 75; refine (Tryd.utf8_AppendRune_row B _ bs.length bs r hr0 hr1 _ hown hlen (by have := hb1.size; omega)).mono ?_)
  rintro e w2 ⟨v', rfl, hown', o, hgrow⟩
  have hlt : b < w1.heap.size := by
    rcases Nat.lt_or_ge b w1.heap.size with h' | h'
    · exact h'
    · simp [Array.getElem?_eq_none h'] at hbk
  have hb2 : w2.heap[b]? = some (.cells #[.pointer (some ⟨b, 0, none⟩), .slice ao bs.length cap] 73 (0, 0)) := by
    rw [hgrow.block b (by simp; omega) (fun e => hne e.symm), Lib.alloc_old w1 _ b hlt]
    exact hbk
  have d0 : w2.cell? ⟨b, 0, none⟩ = some (.pointer (some ⟨b, 0, none⟩)) := by rw [Lib.cell_of_heap hb2]; rfl
  have d1 : w2.cell? ⟨b, 1, none⟩ = some (.slice ao bs.length cap) := by rw [Lib.cell_of_heap hb2]; rfl
  have f1 : w2.frozen? ⟨b, 1, none⟩ = false := Lib.frozen_of_heap hb2 1
  obtain ⟨g, cap', rfl⟩ : ∃ g cap', v' = .slice (some ⟨g, 0, none⟩) (bs.length + (Lib.runeCells r).length) cap' := by
    rcases hown'.2 with ⟨_, h0⟩ | ⟨g, cap', cur, fz, hv, _⟩
    · omega
    · exact ⟨g, cap', hv⟩
  go_wp2
  go_ret2
  refine ⟨by first | rfl | (simp; done) | (simp; omega), ?_, ?_, ((hk1.alloc _).grown hgrow (Lib.ownsRowF_kind (hown.alloc _))).setCell ⟨b, 1, none⟩ rfl _⟩
  · exact Lib.BuilderAtF.put (T := 73) (e := 5) hB hb2 (bs' := bs ++ Lib.runeCells r) (by simpa using hown') (by decide)
  · exact ((hb1.alloc (by have := hb1.size; omega) _).grown hgrow (by have := hb1.size; simp; omega) (fun k hk => (hown.lt k hk).1)).setCell (p := ⟨b, 1, none⟩) hB _
theorem runeCells_ascii (c : Nat) (h : c ≤ 127) : Lib.runeCells (c : Int) = Lib.byteCells [UInt8.ofNat c] := by
  unfold Lib.runeCells Lib.byteCells
  rw [Lib.encodeRuneZ_one (by omega) (by omega)]
  simp
  omega
end

section
open Go.RowKit Go.Proofs.YtmakcmggicedfaaDoorW.PrintWords Go.Proofs.YtmakcmggicedfaaDoor.Base
set_option linter.unusedVariables false
set_option linter.unusedSimpArgs false

def ptr (p : Nat) : Value := .pointer (some ⟨p, 0, none⟩)
/-- A slice of the call's own, of pointers to items of the call's own. -/
def ItemsOwn (w : World) (base : Nat) (v : Value) (xs : List (Int × ByteArray)) : Prop :=
  ∃ ps : List Nat, ps.length = xs.length ∧ w.ownsRow base 75 1 v xs.length (ps.map ptr) ∧ ∀ (i p : Nat) x, ps[i]? = some p → xs[i]? = some x → base ≤ p ∧ w.heap[p]? = some (.cells #[.int .i64 x.1, .string x.2] 77 (0, 0))

theorem ItemsOwn.nil (w : World) (base : Nat) : ItemsOwn w base (.slice none 0 0) [] := ⟨[], rfl, World.ownsRow_nil _ _ _ _, fun i p x h => by simp at h⟩
theorem ItemsOwn.toIn {w : World} {base B : Nat} {v : Value} {xs : List (Int × ByteArray)} (h : ItemsOwn w base v xs) (hB : w.heap.size ≤ B) : ItemsIn w B v xs := by
  obtain ⟨ps, hl, hown, hi⟩ := h
  rcases hown.2 with ⟨rfl, h0⟩ | ⟨g, cap, cur, rfl, hg, hh, hnc, hcm, hcs, htake⟩
  · refine ⟨none, 0, by rw [h0], fun h => by omega⟩
  · refine ⟨_, cap, rfl, fun h0 => ⟨g, cur, (0, 0), rfl, Nat.lt_of_lt_of_le (blk_lt hh) hB, hh, fun i x hx => ?_⟩⟩
    have hin : i < xs.length := by
      rcases Nat.lt_or_ge i xs.length with h | h
      · exact h
      · rw [List.getElem?_eq_none h] at hx; cases hx
    obtain ⟨p, hp⟩ : ∃ p, ps[i]? = some p := ⟨ps[i], by simp [hl, hin]⟩
    obtain ⟨h1, h2⟩ := hi i p x hp hx
    refine ⟨p, Nat.lt_of_lt_of_le (blk_lt h2) hB, ?_, h2⟩
    have h3 : (cur.toList.take (xs.length * 1))[i]? = some (ptr p) := by rw [htake, List.getElem?_map, hp]; rfl
    rw [List.getElem?_take, if_pos (by omega)] at h3
    rw [← Array.getElem?_toList]
    exact h3
theorem ItemsOwn.below {w w' : World} {base : Nat} {v : Value} {xs : List (Int × ByteArray)} (h : ItemsOwn w base v xs) (hb : Below w.heap.size w w') : ItemsOwn w' base v xs := by
  obtain ⟨ps, hl, hown, hi⟩ := h
  exact ⟨ps, hl, pw_own_below hown hb, fun i p x hp hx => ⟨(hi i p x hp hx).1, blk_below (hi i p x hp hx).2 hb⟩⟩
theorem ItemsOwn.drew {w : World} {base : Nat} {v : Value} {xs : List (Int × ByteArray)} (h : ItemsOwn w base v xs) : ItemsOwn w.drew base v xs := h
/-- A store into a block that is none of theirs. -/
theorem ItemsOwn.setFar {w : World} {base L : Nat} {v : Value} {xs : List (Int × ByteArray)} {cs : Array Value} {t : TypeId} (hL : w.heap[L]? = some (.cells cs t (0, 0))) (h1 : t ≠ 75) (h2 : t ≠ 77) (h : ItemsOwn w base v xs) (j : Nat) (u : Value) : ItemsOwn (w.setCell ⟨L, j, none⟩ u) base v xs := by
  obtain ⟨ps, hl, hown, hi⟩ := h
  refine ⟨ps, hl, ?_, fun i p x hp hx => ⟨(hi i p x hp hx).1, blk_far (hi i p x hp hx).2 (Ne.symm (blk_ne' hL (hi i p x hp hx).2 h2)) _⟩⟩
  refine hown.kept (row := some L) ⟨rfl, rfl, rfl, by simp [World.setCell], fun k _ hk => Below.heap_setCell _ _ _ _ (fun e => hk (by simp [e]))⟩ ?_
  rcases hown.2 with ⟨rfl, _⟩ | ⟨g, cap, cur, rfl, _, hh, _⟩
  · exact .inl rfl
  · refine .inr fun e => ?_
    have e : g = L := by simpa [Value.ownBlock] using e
    exact blk_ne' hL hh h1 e.symm
/-- One more. -/
theorem ItemsOwn.snoc {w w' : World} {base p : Nat} {v v' : Value} {xs : List (Int × ByteArray)} {x : Int × ByteArray} {ps : List Nat} (hl : ps.length = xs.length) (hown : w.ownsRow base 75 1 v xs.length (ps.map ptr)) (hi : ∀ (i p : Nat) x, ps[i]? = some p → xs[i]? = some x → base ≤ p ∧ w.heap[p]? = some (.cells #[.int .i64 x.1, .string x.2] 77 (0, 0))) (hp : w.heap[p]? = some (.cells #[.int .i64 x.1, .string x.2] 77 (0, 0))) (hbp : base ≤ p)
    (hown' : w'.ownsRow base 75 1 v' (xs.length + 1) (ps.map ptr ++ [ptr p])) (hg : w.grownBy w' v.ownBlock) : ItemsOwn w' base v' (xs ++ [x]) := by
  have far : ∀ (q : Nat) (y : Int × ByteArray), w.heap[q]? = some (.cells #[.int .i64 y.1, .string y.2] 77 (0, 0)) → w'.heap[q]? = some (.cells #[.int .i64 (y : Int × ByteArray).1, .string y.2] 77 (0, 0)) := by
    intro q y hq
    refine blk_grown hq hg ?_
    rcases hown.2 with ⟨rfl, _⟩ | ⟨g, cap, cur, rfl, _, hh, _⟩
    · simp [Value.ownBlock]
    · intro e
      have e : q = g := by simpa [Value.ownBlock] using e
      exact blk_ne' hq hh (by decide) e
  refine ⟨ps ++ [p], by simp [hl], by simpa using hown', fun i q y hq hy => ?_⟩
  by_cases hilt : i < xs.length
  · rw [List.getElem?_append_left (by omega)] at hq hy
    exact ⟨(hi i q y hq hy).1, far q y (hi i q y hq hy).2⟩
  · rw [List.getElem?_append_right (by omega)] at hq hy
    rw [show i - ps.length = 0 by
      have := List.getElem?_eq_some_iff.1 hq
      obtain ⟨h1, _⟩ := this
      simp at h1
      omega] at hq
    have h1 : i - xs.length = 0 := by
      have := List.getElem?_eq_some_iff.1 hy
      obtain ⟨h1, _⟩ := this
      simp at h1
      omega
    rw [h1] at hy
    simp at hq hy
    subst hq hy
    exact ⟨hbp, far _ _ hp⟩
theorem infoP : ∃ i, Tryd.prog.info? 75 = some i ∧ i.zero = some (.pointer none) ∧ i.size = 1 ∧ i.bytes = 8 := by
  obtain ⟨i, hi, h⟩ := Option.map_eq_some_iff.1 (show (Tryd.prog.info? 75).map (fun i => (i.zero, i.size, i.bytes)) = some (some (.pointer none), 1, 8) by kernel_rfl)
  simp only [Prod.mk.injEq] at h
  exact ⟨i, hi, h.1, h.2.1, h.2.2⟩
end

section
open Go.RowKit Go.Proofs.YtmakcmggicedfaaDoorW.PrintWords Go.Proofs.YtmakcmggicedfaaDoor.Base Go.Proofs.YtmakcmggicedfaaDoor
set_option linter.unusedVariables false
set_option linter.unusedSimpArgs false

theorem w_succ (i : Nat) (h : i ≤ 4000000000000000000) : wrap64 ((i : Int) + 1) = ((i + 1 : Nat) : Int) := by rw [wrap64_id (by omega) (by omega)]; omega
theorem strOf_bytes (x : ByteArray) : strOfNums (bytesOf x) = x := by
  apply bytes_ext
  simp [strOfNums, bytesOf]
  exact List.map_id'' (fun x => by simp) _
theorem no_at (s sub : ByteArray) (c : UInt8) (l : List UInt8) (hs : sub.data.toList = c :: l) (hno : c ∉ s.data.toList) (i n : Nat) : (s.extract i n).toList ≠ sub.toList := by
  rw [toList_data, toList_data, hs]
  intro e
  apply hno
  have : c ∈ (s.extract i n).data.toList := by rw [e]; simp
  rw [Text.data_extract] at this
  exact List.mem_of_mem_drop (List.mem_of_mem_take this)

theorem idx_PLzzContains (s sub : ByteArray) (c : UInt8) (l : List UInt8) (hs : sub.data.toList = c :: l) (hno : c ∉ s.data.toList) (hz : s.size ≤ 1000000000) (hz2 : sub.size ≤ 1000000000) : ∀ (d i : Nat), s.size + 1 - i ≤ d → i ≤ s.size + 1 → Ev (fun k => PLzzContains.list_zzIndex.l0 k s sub (i : Int)) (-1) := by
  have hpos : 1 ≤ sub.size := by rw [size_list, hs]; simp
  have stop : ∀ i : Nat, s.size < i + sub.size → i ≤ s.size + 1 → Ev (fun k => PLzzContains.list_zzIndex.l0 k s sub (i : Int)) (-1) := by
    intro i h1 h2
    refine Ev.step (f := fun _ => some (-1)) (fun k => ?_) (Ev.now _)
    simp only [PLzzContains.list_zzIndex.l0]
    rw [wrap64_id (x := (i : Int) + sub.size) (by omega) (by omega), if_neg (by omega)]
  intro d
  induction d with
  | zero =>
    intro i h1 h2
    exact stop i (by omega) h2
  | succ d ih =>
    intro i h1 h2
    by_cases hi : i + sub.size ≤ s.size
    · refine Ev.step (f := fun k => PLzzContains.list_zzIndex.l0 k s sub ((i + 1 : Nat) : Int)) (fun k => ?_) (ih (i + 1) (by omega) (by omega))
      simp only [PLzzContains.list_zzIndex.l0]
      rw [wrap64_id (x := (i : Int) + sub.size) (by omega) (by omega), if_pos (by omega), if_pos (by omega), if_pos (by omega), if_neg (no_at s sub c l hs hno _ _), w_succ i (by omega)]
    · exact stop i (by omega) h2
theorem containsNone_list (s sub : ByteArray) (c : UInt8) (l : List UInt8) (hs : sub.data.toList = c :: l) (hno : c ∉ s.data.toList) (hz : s.size ≤ 1000000000) (hz2 : sub.size ≤ 1000000000) (w : World) :
    Calls Tryd.prog 61 #[.string s, .string sub] w fun e w' => e = .returned (.bool false) ∧ Drawn0 w w' := by
  have h : Ev (fun k => PLzzContains.list_zzContains.f k s sub) false := by
    unfold PLzzContains.list_zzContains.f
    exact Ev.bind (g := fun k => PLzzContains.list_zzIndex.f k s sub) (idx_PLzzContains s sub c l hs hno hz hz2 (s.size + 1) 0 (by omega) (by omega)) (Ev.congr (f := fun _ => some false) (fun k => by simp) (Ev.now _))
  obtain ⟨k, hk⟩ := h.rounds
  exact PLzzContains.list_zzContains.calls k s sub false w hk

theorem idx_PTzzContains (s sub : ByteArray) (c : UInt8) (l : List UInt8) (hs : sub.data.toList = c :: l) (hno : c ∉ s.data.toList) (hz : s.size ≤ 1000000000) (hz2 : sub.size ≤ 1000000000) : ∀ (d i : Nat), s.size + 1 - i ≤ d → i ≤ s.size + 1 → Ev (fun k => PTzzContains.text_zzIndex.l0 k s sub (i : Int)) (-1) := by
  have hpos : 1 ≤ sub.size := by rw [size_list, hs]; simp
  have stop : ∀ i : Nat, s.size < i + sub.size → i ≤ s.size + 1 → Ev (fun k => PTzzContains.text_zzIndex.l0 k s sub (i : Int)) (-1) := by
    intro i h1 h2
    refine Ev.step (f := fun _ => some (-1)) (fun k => ?_) (Ev.now _)
    simp only [PTzzContains.text_zzIndex.l0]
    rw [wrap64_id (x := (i : Int) + sub.size) (by omega) (by omega), if_neg (by omega)]
  intro d
  induction d with
  | zero =>
    intro i h1 h2
    exact stop i (by omega) h2
  | succ d ih =>
    intro i h1 h2
    by_cases hi : i + sub.size ≤ s.size
    · refine Ev.step (f := fun k => PTzzContains.text_zzIndex.l0 k s sub ((i + 1 : Nat) : Int)) (fun k => ?_) (ih (i + 1) (by omega) (by omega))
      simp only [PTzzContains.text_zzIndex.l0]
      rw [wrap64_id (x := (i : Int) + sub.size) (by omega) (by omega), if_pos (by omega), if_pos (by omega), if_pos (by omega), if_neg (no_at s sub c l hs hno _ _), w_succ i (by omega)]
    · exact stop i (by omega) h2
theorem containsNone_text (s sub : ByteArray) (c : UInt8) (l : List UInt8) (hs : sub.data.toList = c :: l) (hno : c ∉ s.data.toList) (hz : s.size ≤ 1000000000) (hz2 : sub.size ≤ 1000000000) (w : World) :
    Calls Tryd.prog 83 #[.string s, .string sub] w fun e w' => e = .returned (.bool false) ∧ Drawn0 w w' := by
  have h : Ev (fun k => PTzzContains.text_zzContains.f k s sub) false := by
    unfold PTzzContains.text_zzContains.f
    exact Ev.bind (g := fun k => PTzzContains.text_zzIndex.f k s sub) (idx_PTzzContains s sub c l hs hno hz hz2 (s.size + 1) 0 (by omega) (by omega)) (Ev.congr (f := fun _ => some false) (fun k => by simp) (Ev.now _))
  obtain ⟨k, hk⟩ := h.rounds
  exact PTzzContains.text_zzContains.calls k s sub false w hk

theorem idx_PLzzReplaceAll (s sub : ByteArray) (c : UInt8) (l : List UInt8) (hs : sub.data.toList = c :: l) (hno : c ∉ s.data.toList) (hz : s.size ≤ 1000000000) (hz2 : sub.size ≤ 1000000000) : ∀ (d i : Nat), s.size + 1 - i ≤ d → i ≤ s.size + 1 → Ev (fun k => PLzzReplaceAll.list_zzIndex.l0 k s sub (i : Int)) (-1) := by
  have hpos : 1 ≤ sub.size := by rw [size_list, hs]; simp
  have stop : ∀ i : Nat, s.size < i + sub.size → i ≤ s.size + 1 → Ev (fun k => PLzzReplaceAll.list_zzIndex.l0 k s sub (i : Int)) (-1) := by
    intro i h1 h2
    refine Ev.step (f := fun _ => some (-1)) (fun k => ?_) (Ev.now _)
    simp only [PLzzReplaceAll.list_zzIndex.l0]
    rw [wrap64_id (x := (i : Int) + sub.size) (by omega) (by omega), if_neg (by omega)]
  intro d
  induction d with
  | zero =>
    intro i h1 h2
    exact stop i (by omega) h2
  | succ d ih =>
    intro i h1 h2
    by_cases hi : i + sub.size ≤ s.size
    · refine Ev.step (f := fun k => PLzzReplaceAll.list_zzIndex.l0 k s sub ((i + 1 : Nat) : Int)) (fun k => ?_) (ih (i + 1) (by omega) (by omega))
      simp only [PLzzReplaceAll.list_zzIndex.l0]
      rw [wrap64_id (x := (i : Int) + sub.size) (by omega) (by omega), if_pos (by omega), if_pos (by omega), if_pos (by omega), if_neg (no_at s sub c l hs hno _ _), w_succ i (by omega)]
    · exact stop i (by omega) h2
theorem replaceNone_list (s sub new : ByteArray) (c : UInt8) (l : List UInt8) (hs : sub.data.toList = c :: l) (hno : c ∉ s.data.toList) (hz : s.size ≤ 1000000000) (hz2 : sub.size ≤ 1000000000) (w : World) :
    Calls Tryd.prog 62 #[.string s, .string sub, .string new] w fun e w' => e = .returned (.string s) ∧ Below w.heap.size w w' := by
  have hpos : 1 ≤ sub.size := by rw [size_list, hs]; simp
  have h : Ev (fun k => PLzzReplaceAll.list_zzReplaceAll.f k s sub new) s := by
    unfold PLzzReplaceAll.list_zzReplaceAll.f
    refine Ev.congr (f := fun k => PLzzReplaceAll.list_zzReplaceAll.l1 k s sub new []) (fun k => by rw [if_neg (by omega)]) ?_
    refine Ev.step (fun k => by simp only [PLzzReplaceAll.list_zzReplaceAll.l1]; rfl) (Ev.bind (g := fun k => PLzzReplaceAll.list_zzIndex.f k s sub) (idx_PLzzReplaceAll s sub c l hs hno hz hz2 (s.size + 1) 0 (by omega) (by omega)) (Ev.congr (f := fun _ => some s) (fun k => ?_) (Ev.now _)))
    rw [if_pos (by decide), if_pos (by simp; omega), List.nil_append, strOf_bytes]
  obtain ⟨k, hk⟩ := h.rounds
  exact PLzzReplaceAll.list_zzReplaceAll.calls k s sub new s w (by omega) hk

theorem idx_PTzzReplaceAll (s sub : ByteArray) (c : UInt8) (l : List UInt8) (hs : sub.data.toList = c :: l) (hno : c ∉ s.data.toList) (hz : s.size ≤ 1000000000) (hz2 : sub.size ≤ 1000000000) : ∀ (d i : Nat), s.size + 1 - i ≤ d → i ≤ s.size + 1 → Ev (fun k => PTzzReplaceAll.text_zzIndex.l0 k s sub (i : Int)) (-1) := by
  have hpos : 1 ≤ sub.size := by rw [size_list, hs]; simp
  have stop : ∀ i : Nat, s.size < i + sub.size → i ≤ s.size + 1 → Ev (fun k => PTzzReplaceAll.text_zzIndex.l0 k s sub (i : Int)) (-1) := by
    intro i h1 h2
    refine Ev.step (f := fun _ => some (-1)) (fun k => ?_) (Ev.now _)
    simp only [PTzzReplaceAll.text_zzIndex.l0]
    rw [wrap64_id (x := (i : Int) + sub.size) (by omega) (by omega), if_neg (by omega)]
  intro d
  induction d with
  | zero =>
    intro i h1 h2
    exact stop i (by omega) h2
  | succ d ih =>
    intro i h1 h2
    by_cases hi : i + sub.size ≤ s.size
    · refine Ev.step (f := fun k => PTzzReplaceAll.text_zzIndex.l0 k s sub ((i + 1 : Nat) : Int)) (fun k => ?_) (ih (i + 1) (by omega) (by omega))
      simp only [PTzzReplaceAll.text_zzIndex.l0]
      rw [wrap64_id (x := (i : Int) + sub.size) (by omega) (by omega), if_pos (by omega), if_pos (by omega), if_pos (by omega), if_neg (no_at s sub c l hs hno _ _), w_succ i (by omega)]
    · exact stop i (by omega) h2
theorem replaceNone_text (s sub new : ByteArray) (c : UInt8) (l : List UInt8) (hs : sub.data.toList = c :: l) (hno : c ∉ s.data.toList) (hz : s.size ≤ 1000000000) (hz2 : sub.size ≤ 1000000000) (w : World) :
    Calls Tryd.prog 82 #[.string s, .string sub, .string new] w fun e w' => e = .returned (.string s) ∧ Below w.heap.size w w' := by
  have hpos : 1 ≤ sub.size := by rw [size_list, hs]; simp
  have h : Ev (fun k => PTzzReplaceAll.text_zzReplaceAll.f k s sub new) s := by
    unfold PTzzReplaceAll.text_zzReplaceAll.f
    refine Ev.congr (f := fun k => PTzzReplaceAll.text_zzReplaceAll.l1 k s sub new []) (fun k => by rw [if_neg (by omega)]) ?_
    refine Ev.step (fun k => by simp only [PTzzReplaceAll.text_zzReplaceAll.l1]; rfl) (Ev.bind (g := fun k => PTzzReplaceAll.text_zzIndex.f k s sub) (idx_PTzzReplaceAll s sub c l hs hno hz hz2 (s.size + 1) 0 (by omega) (by omega)) (Ev.congr (f := fun _ => some s) (fun k => ?_) (Ev.now _)))
    rw [if_pos (by decide), if_pos (by simp; omega), List.nil_append, strOf_bytes]
  obtain ⟨k, hk⟩ := h.rounds
  exact PTzzReplaceAll.text_zzReplaceAll.calls k s sub new s w (by omega) hk

theorem idx_PLzzSplit (s sub : ByteArray) (c : UInt8) (l : List UInt8) (hs : sub.data.toList = c :: l) (hno : c ∉ s.data.toList) (hz : s.size ≤ 1000000000) (hz2 : sub.size ≤ 1000000000) : ∀ (d i : Nat), s.size + 1 - i ≤ d → i ≤ s.size + 1 → Ev (fun k => PLzzSplit.list_zzIndex.l0 k s sub (i : Int)) (-1) := by
  have hpos : 1 ≤ sub.size := by rw [size_list, hs]; simp
  have stop : ∀ i : Nat, s.size < i + sub.size → i ≤ s.size + 1 → Ev (fun k => PLzzSplit.list_zzIndex.l0 k s sub (i : Int)) (-1) := by
    intro i h1 h2
    refine Ev.step (f := fun _ => some (-1)) (fun k => ?_) (Ev.now _)
    simp only [PLzzSplit.list_zzIndex.l0]
    rw [wrap64_id (x := (i : Int) + sub.size) (by omega) (by omega), if_neg (by omega)]
  intro d
  induction d with
  | zero =>
    intro i h1 h2
    exact stop i (by omega) h2
  | succ d ih =>
    intro i h1 h2
    by_cases hi : i + sub.size ≤ s.size
    · refine Ev.step (f := fun k => PLzzSplit.list_zzIndex.l0 k s sub ((i + 1 : Nat) : Int)) (fun k => ?_) (ih (i + 1) (by omega) (by omega))
      simp only [PLzzSplit.list_zzIndex.l0]
      rw [wrap64_id (x := (i : Int) + sub.size) (by omega) (by omega), if_pos (by omega), if_pos (by omega), if_pos (by omega), if_neg (no_at s sub c l hs hno _ _), w_succ i (by omega)]
    · exact stop i (by omega) h2
theorem splitNone (s sub : ByteArray) (c : UInt8) (l : List UInt8) (hs : sub.data.toList = c :: l) (hno : c ∉ s.data.toList) (hz : s.size ≤ 1000000000) (hz2 : sub.size ≤ 1000000000) (w : World) :
    Calls Tryd.prog 63 #[.string s, .string sub] w fun e w' => ∃ v0_ : Value, e = .returned (v0_) ∧ Kd.R Kd.string 9 w' w.heap.size (fun _ => True) v0_ [s] ∧ Below w.heap.size w w' := by
  have hpos : 1 ≤ sub.size := by rw [size_list, hs]; simp
  have h : Ev (fun k => PLzzSplit.list_zzSplit.f k s sub) [s] := by
    unfold PLzzSplit.list_zzSplit.f
    refine Ev.congr (f := fun k => PLzzSplit.list_zzSplit.l1 k s sub []) (fun k => by rw [if_neg (by omega)]) ?_
    refine Ev.step (fun k => by simp only [PLzzSplit.list_zzSplit.l1]; rfl) (Ev.bind (g := fun k => PLzzSplit.list_zzIndex.f k s sub) (idx_PLzzSplit s sub c l hs hno hz hz2 (s.size + 1) 0 (by omega) (by omega)) (Ev.congr (f := fun _ => some [s]) (fun k => ?_) (Ev.now _)))
    rw [if_pos (by decide), if_pos (by simp), List.nil_append]
  obtain ⟨k, hk⟩ := h.rounds
  exact PLzzSplit.list_zzSplit.calls k s sub [s] w hk
end

section
open Go.RowKit Go.Proofs.YtmakcmggicedfaaDoorW.PrintWords Go.Proofs.YtmakcmggicedfaaDoor.Base
set_option linter.unusedVariables false
set_option linter.unusedSimpArgs false

/-- A text without tabs, line feeds and carriage returns. -/
structure Flat (s : ByteArray) : Prop where
  tab : (9 : UInt8) ∉ s.data.toList
  lf : (10 : UInt8) ∉ s.data.toList
  cr : (13 : UInt8) ∉ s.data.toList
  size : s.size ≤ 1000000

@[local go_sem] theorem assert_str (W : World) (v : Value) : (Instr.typeAssert (.iface 9 v) 20 9 true).run Tryd.prog W = .ok (.tuple #[v, .bool true]) W := by kernel_rfl

set_option maxHeartbeats 4000000 in
set_option maxRecDepth 100000 in
theorem zzTextStr (s : ByteArray) (w : World) : Calls Tryd.prog 68 #[.iface 9 (.string s)] w fun e w' => e = .returned (.string s) ∧ w = w' := by
  go_enter Tryd.func68, Tryd.ntmps68
  go_wp2
  go_ret
  exact ⟨rfl, rfl⟩

set_option maxHeartbeats 4000000 in
set_option maxRecDepth 100000 in
theorem processNone (s : ByteArray) (hs : Flat s) (w : World) : Calls Tryd.prog 69 #[.string s] w fun e w' => e = .returned (.string s) ∧ Below w.heap.size w w' := by
  have hz : s.size ≤ 1000000000 := by have := hs.size; omega
  go_enter Tryd.func69, Tryd.ntmps69
  go_wp2_with (first
    | (go_at_call 82; refine (replaceNone_text s ⟨#[13, 10]⟩ ⟨#[10]⟩ 13 [10] rfl hs.cr hz (by decide) _).mono ?_; rintro e w2 ⟨rfl, b2⟩)
    | (go_at_call 83; refine (containsNone_text s ⟨#[13]⟩ 13 [] rfl hs.cr hz (by decide) _).mono ?_; rintro e w3 ⟨rfl, ⟨nd, rfl⟩⟩))
  go_ret
  exact ⟨rfl, pw_below_drewN b2 nd⟩

set_option maxHeartbeats 4000000 in
set_option maxRecDepth 100000 in
theorem analyze (L : Nat) (lv : Int) (s : ByteArray) (hs : Flat s) (w : World) (hL : w.cell? ⟨L, 4, none⟩ = some (.int .i64 lv)) :
    Calls Tryd.prog 53 #[.pointer (some ⟨L, 0, none⟩), .iface 9 (.string s)] w fun e w' => ∃ p, e = .returned (.pointer (some ⟨p, 0, none⟩)) ∧ w.heap.size ≤ p ∧ w'.heap[p]? = some (.cells #[.int .i64 lv, .string s] 77 (0, 0)) ∧ Below w.heap.size w w' := by
  have hz : s.size ≤ 1000000000 := by have := hs.size; omega
  have HL := Aside0.mk hL
  clear hL
  go_enter Tryd.func53, Tryd.ntmps53
  go_wp2_with (first
    | (go_at_call 68; refine (zzTextStr s _).mono ?_; rintro e w1 ⟨rfl, rfl⟩)
    | (go_at_call 62; refine (replaceNone_list s ⟨#[9]⟩ ⟨#[32, 32, 32, 32]⟩ 9 [] rfl hs.tab hz (by decide) _).mono ?_; rintro e w2 ⟨rfl, b2⟩)
    | (go_at_call 69; refine (processNone s hs _).mono ?_; rintro e w3 ⟨rfl, b3⟩; have B3 := Aside0.mk (b2.trans (b3.mono b2.size)); have d4 := (B3.out.cell (World.block_lt_of_cell? _ _ HL.out)).trans HL.out; clear b2 b3))
  go_ret
  exact ⟨w3.heap.size, rfl, B3.out.size, blk_new w3 (.cells #[.int .i64 lv, .string s] 77), below_alloc B3.out _⟩
end

section
open Go.RowKit Go.Proofs.YtmakcmggicedfaaDoorW.PrintWords Go.Proofs.YtmakcmggicedfaaDoor.Base
set_option linter.unusedVariables false
set_option linter.unusedSimpArgs false

def prefL (pre vert cvs : List UInt8) (m : List Int) (n : Nat) : List UInt8 := pre ++ ((List.range n).map fun (k : Nat) => if moreL m (k : Int) then vert else cvs).flatten
theorem prefL_succ (pre vert cvs : List UInt8) (m : List Int) (n : Nat) : prefL pre vert cvs m (n + 1) = prefL pre vert cvs m n ++ (if moreL m (n : Int) then vert else cvs) := by
  unfold prefL
  rw [List.range_succ, List.map_append, List.flatten_append]
  simp
theorem prefL_len (pre vert cvs : List UInt8) (m : List Int) (M : Nat) (h1 : vert.length ≤ M) (h2 : cvs.length ≤ M) : ∀ n, (prefL pre vert cvs m n).length ≤ pre.length + n * M
  | 0 => by simp [prefL]
  | n + 1 => by
    have := prefL_len pre vert cvs m M h1 h2 n
    rw [prefL_succ, List.length_append, Nat.add_mul, Nat.one_mul]
    split <;> omega

set_option maxHeartbeats 8000000 in
set_option maxRecDepth 100000 in
theorem renderPrefix (w : World) (B L S b : Nat) (ap : Int) (cvs css : ByteArray) (lv0 : Int) (st : Sty) (v : Value) (xs : List (Int × ByteArray)) (H : ListIn w B L S ap cvs css lv0 st v xs) (bs : List UInt8) (hbl : Lib.IsBuilderF 73 5 B b (Lib.byteCells bs) w) (hBw : B ≤ w.heap.size)
    (at_ n : Nat) (hxs : xs.length ≤ 1000000000) (hat : at_ ≤ 1000000000) (hn : n ≤ 100000) (hp : st.pre.size ≤ 1000000) (hv : st.vert.size ≤ 1000000) (hc : cvs.size ≤ 1000000) (hb : bs.length ≤ 10000000000000) :
    Calls Tryd.prog 64 #[.pointer (some ⟨L, 0, none⟩), .pointer (some ⟨b, 0, none⟩), .int .i64 (at_ : Int), .int .i64 (n : Int)] w fun e w' => e = .returned (.tuple #[]) ∧ Lib.IsBuilderF 73 5 B b (Lib.byteCells (bs ++ prefL st.pre.data.toList st.vert.data.toList cvs.data.toList (lvs xs (at_ + 1)) n)) w' ∧ Below B w w' := by
  have HL := Aside0.mk H
  have HI := Aside0.mk hbl
  obtain ⟨_, _, hS, hL, _⟩ := H
  have hc5 : w.cell? ⟨L, 5, none⟩ = some (.pointer (some ⟨S, 0, none⟩)) := by rw [blk_cell hL]; rfl
  have hs8 : w.cell? ⟨S, 8, none⟩ = some (.string st.pre) := by rw [blk_cell hS]; rfl
  clear hS hL hbl
  go_enter Tryd.func64, Tryd.ntmps64
  go_upto_if 16 with (fail)
  go_cut [] (fun wc => Aside0 (Lib.IsBuilderF 73 5 B b (Lib.byteCells (bs ++ st.pre.data.toList)) wc) ∧ Aside0 (Below B w wc))
  case first =>
    cases he : st.pre.toList.isEmpty with
    | true =>
      go_wp2
      go_meet
      case rel =>
        have h0 : st.pre.data.toList = [] := by rw [← toList_data]; exact List.isEmpty_iff.1 he
        exact ⟨⟨by rw [h0, List.append_nil]; exact HI.out⟩, ⟨Below.refl _ _⟩⟩
    | false =>
      go_wp2_with (go_at_call 66; refine (writeString B b _ st.pre _ HI.out ?sideL ?sideB).mono ?_)
      case sideL => rw [Lib.byteCells_length]; omega
      case sideB => exact hBw
      rintro e w3 ⟨rfl, h3, b3, k3⟩
      have H3 := Aside0.mk h3
      have B3 := Aside0.mk b3
      clear h3 b3 k3
      go_wp2
      go_meet
      case rel => exact ⟨⟨by rw [Lib.byteCells_append]; exact Or.inr H3.out⟩, B3⟩
  case rest =>
    obtain ⟨I2, B2⟩ := hcut
    clear HI hc5 hs8
    go_wp2
    go_loopg [8] n (fun kq v8 w' => ∃ i : Nat, v8 = .int .i64 (i : Int) ∧ Aside0 (i + kq = n) ∧ Aside0 (Lib.IsBuilderF 73 5 B b (Lib.byteCells (bs ++ prefL st.pre.data.toList st.vert.data.toList cvs.data.toList (lvs xs (at_ + 1)) i)) w') ∧ Aside0 (Below B w w'))
    case atStart => exact ⟨0, rfl, ⟨by omega⟩, ⟨by simpa [prefL] using I2.out⟩, B2⟩
    case round =>
      clear I2 B2
      obtain ⟨i, rfl, HK, I3, B3⟩ := hrel
      by_cases hi : i < n
      · have H3 := Aside0.mk (HL.out.below B3.out)
        obtain ⟨_, _, hS, hL, _⟩ := H3.out
        have hc5 : wr.cell? ⟨L, 5, none⟩ = some (.pointer (some ⟨S, 0, none⟩)) := by rw [blk_cell hL]; rfl
        have hc1 : wr.cell? ⟨L, 1, none⟩ = some (.string cvs) := by rw [blk_cell hL]; rfl
        have hs5 : wr.cell? ⟨S, 5, none⟩ = some (.string st.vert) := by rw [blk_cell hS]; rfl
        clear hS hL
        have p1 : decide ((i : Int) < (n : Int)) = true := decide_eq_true (by omega)
        have hsz := prefL_len st.pre.data.toList st.vert.data.toList cvs.data.toList (lvs xs (at_ + 1)) 1000000 (by rw [← size_list]; omega) (by rw [← size_list]; omega) i
        have hpz := size_list st.pre
        have hsz2 : i * 1000000 ≤ 100000 * 1000000 := Nat.mul_le_mul_right _ (by omega)
        have hBr : B ≤ wr.heap.size := Nat.le_trans hBw B3.out.size
        have hsl : (Lib.byteCells (bs ++ prefL st.pre.data.toList st.vert.data.toList cvs.data.toList (lvs xs (at_ + 1)) i)).length ≤ 20000000000000 := by rw [Lib.byteCells_length, List.length_append]; omega
        have SL := Aside0.mk hsl
        clear hsl hsz hpz hsz2
        cases hm : moreL (lvs xs (at_ + 1)) (i : Int) with
        | true =>
          have HM := Aside0.mk hm
          go_wp2_with (first
            | (go_at_call 49; refine (hasMore wr B L S ap cvs css lv0 st v xs H3.out (i : Int) at_ hxs hat).mono ?_; rw [HM.out]; rintro e w' ⟨rfl, rfl⟩)
            | (go_at_call 66; refine (writeString B b _ st.vert _ I3.out (by have := SL.out; omega) hBr).mono ?_; rintro e w4 ⟨rfl, h4, b4, k4⟩))
          have H4 := Aside0.mk h4
          have B4 := Aside0.mk b4
          clear h4 b4 k4
          go_roundg (gk - 1)
          case measure => have := HK.out; omega
          case rel => exact ⟨i + 1, by go_num, ⟨by have := HK.out; omega⟩, ⟨by rw [prefL_succ, HM.out, if_pos rfl, ← List.append_assoc, Lib.byteCells_append]; exact Or.inr H4.out⟩, ⟨B3.out.trans B4.out⟩⟩
        | false =>
          have HM := Aside0.mk hm
          go_wp2_with (first
            | (go_at_call 49; refine (hasMore wr B L S ap cvs css lv0 st v xs H3.out (i : Int) at_ hxs hat).mono ?_; rw [HM.out]; rintro e w' ⟨rfl, rfl⟩)
            | (go_at_call 66; refine (writeString B b _ cvs _ I3.out (by have := SL.out; omega) hBr).mono ?_; rintro e w4 ⟨rfl, h4, b4, k4⟩))
          have H4 := Aside0.mk h4
          have B4 := Aside0.mk b4
          clear h4 b4 k4
          go_roundg (gk - 1)
          case measure => have := HK.out; omega
          case rel => exact ⟨i + 1, by go_num, ⟨by have := HK.out; omega⟩, ⟨by rw [prefL_succ, HM.out, if_neg (by decide), ← List.append_assoc, Lib.byteCells_append]; exact Or.inr H4.out⟩, ⟨B3.out.trans B4.out⟩⟩
      · have p1 : decide ((i : Int) < (n : Int)) = false := decide_eq_false (by omega)
        go_wp2
        go_end0
        have hin : i = n := by have := HK.out; omega
        exact ⟨rfl, by rw [← hin]; exact I3.out, B3.out⟩
end

section
open Go.RowKit Go.Proofs.YtmakcmggicedfaaDoorW.PrintWords Go.Proofs.YtmakcmggicedfaaDoor.Base
set_option linter.unusedVariables false
set_option linter.unusedSimpArgs false

/-- A block of another type, not the builder's own, stays. -/
def HintKept (b h : Nat) (cs : Array Value) (w : World) : Prop := h ≠ b ∧ w.heap[h]? = some (.cells cs 80 (0, 0))
theorem HintKept.step {b h : Nat} {cs : Array Value} {w w' : World} (k : HintKept b h cs w) (o : Lib.OthersKept 5 (some b) w w') : HintKept b h cs w' :=
  ⟨k.1, o h _ k.2 (by simpa using k.1) (fun c fz e => by simp only [Obj.cells.injEq] at e; exact absurd e.2.1 (by decide))⟩

set_option maxHeartbeats 8000000 in
set_option maxRecDepth 100000 in
theorem renderPrefixK (h : Nat) (hc0 : Array Value) (w : World)  (B L S b : Nat) (ap : Int) (cvs css : ByteArray) (lv0 : Int) (st : Sty) (v : Value) (xs : List (Int × ByteArray)) (H : ListIn w B L S ap cvs css lv0 st v xs) (bs : List UInt8) (hbl : Lib.IsBuilderF 73 5 B b (Lib.byteCells bs) w) (hBw : B ≤ w.heap.size)
    (hk0 : HintKept b h hc0 w) (at_ n : Nat) (hxs : xs.length ≤ 1000000000) (hat : at_ ≤ 1000000000) (hn : n ≤ 100000) (hp : st.pre.size ≤ 1000000) (hv : st.vert.size ≤ 1000000) (hc : cvs.size ≤ 1000000) (hb : bs.length ≤ 10000000000000) :
    Calls Tryd.prog 64 #[.pointer (some ⟨L, 0, none⟩), .pointer (some ⟨b, 0, none⟩), .int .i64 (at_ : Int), .int .i64 (n : Int)] w fun e w' => e = .returned (.tuple #[]) ∧ Lib.IsBuilderF 73 5 B b (Lib.byteCells (bs ++ prefL st.pre.data.toList st.vert.data.toList cvs.data.toList (lvs xs (at_ + 1)) n)) w' ∧ Below B w w' ∧ HintKept b h hc0 w' := by
  have HK0 := Aside0.mk hk0
  have HL := Aside0.mk H
  clear hk0
  have HI := Aside0.mk hbl
  obtain ⟨_, _, hS, hL, _⟩ := H
  have hc5 : w.cell? ⟨L, 5, none⟩ = some (.pointer (some ⟨S, 0, none⟩)) := by rw [blk_cell hL]; rfl
  have hs8 : w.cell? ⟨S, 8, none⟩ = some (.string st.pre) := by rw [blk_cell hS]; rfl
  clear hS hL hbl
  go_enter Tryd.func64, Tryd.ntmps64
  go_upto_if 16 with (fail)
  go_cut [] (fun wc => Aside0 (Lib.IsBuilderF 73 5 B b (Lib.byteCells (bs ++ st.pre.data.toList)) wc) ∧ Aside0 (Below B w wc) ∧ Aside0 (HintKept b h hc0 wc))
  case first =>
    cases he : st.pre.toList.isEmpty with
    | true =>
      go_wp2
      go_meet
      case rel =>
        have h0 : st.pre.data.toList = [] := by rw [← toList_data]; exact List.isEmpty_iff.1 he
        exact ⟨⟨by rw [h0, List.append_nil]; exact HI.out⟩, ⟨Below.refl _ _⟩, HK0⟩
    | false =>
      go_wp2_with (go_at_call 66; refine (writeString B b _ st.pre _ HI.out ?sideL ?sideB).mono ?_)
      case sideL => rw [Lib.byteCells_length]; omega
      case sideB => exact hBw
      rintro e w3 ⟨rfl, h3, b3, k3⟩
      have H3 := Aside0.mk h3
      have B3 := Aside0.mk b3
      have K3 := Aside0.mk (HK0.out.step k3)
      clear h3 b3 k3
      go_wp2
      go_meet
      case rel => exact ⟨⟨by rw [Lib.byteCells_append]; exact Or.inr H3.out⟩, B3, K3⟩
  case rest =>
    obtain ⟨I2, B2, K2⟩ := hcut
    clear HI hc5 hs8
    go_wp2
    go_loopg [8] n (fun kq v8 w' => ∃ i : Nat, v8 = .int .i64 (i : Int) ∧ Aside0 (i + kq = n) ∧ Aside0 (Lib.IsBuilderF 73 5 B b (Lib.byteCells (bs ++ prefL st.pre.data.toList st.vert.data.toList cvs.data.toList (lvs xs (at_ + 1)) i)) w') ∧ Aside0 (Below B w w') ∧ Aside0 (HintKept b h hc0 w'))
    case atStart => exact ⟨0, rfl, ⟨by omega⟩, ⟨by simpa [prefL] using I2.out⟩, B2, K2⟩
    case round =>
      clear I2 B2 K2
      obtain ⟨i, rfl, HK, I3, B3, K3⟩ := hrel
      by_cases hi : i < n
      · have H3 := Aside0.mk (HL.out.below B3.out)
        obtain ⟨_, _, hS, hL, _⟩ := H3.out
        have hc5 : wr.cell? ⟨L, 5, none⟩ = some (.pointer (some ⟨S, 0, none⟩)) := by rw [blk_cell hL]; rfl
        have hc1 : wr.cell? ⟨L, 1, none⟩ = some (.string cvs) := by rw [blk_cell hL]; rfl
        have hs5 : wr.cell? ⟨S, 5, none⟩ = some (.string st.vert) := by rw [blk_cell hS]; rfl
        clear hS hL
        have p1 : decide ((i : Int) < (n : Int)) = true := decide_eq_true (by omega)
        have hsz := prefL_len st.pre.data.toList st.vert.data.toList cvs.data.toList (lvs xs (at_ + 1)) 1000000 (by rw [← size_list]; omega) (by rw [← size_list]; omega) i
        have hpz := size_list st.pre
        have hsz2 : i * 1000000 ≤ 100000 * 1000000 := Nat.mul_le_mul_right _ (by omega)
        have hBr : B ≤ wr.heap.size := Nat.le_trans hBw B3.out.size
        have hsl : (Lib.byteCells (bs ++ prefL st.pre.data.toList st.vert.data.toList cvs.data.toList (lvs xs (at_ + 1)) i)).length ≤ 20000000000000 := by rw [Lib.byteCells_length, List.length_append]; omega
        have SL := Aside0.mk hsl
        clear hsl hsz hpz hsz2
        cases hm : moreL (lvs xs (at_ + 1)) (i : Int) with
        | true =>
          have HM := Aside0.mk hm
          go_wp2_with (first
            | (go_at_call 49; refine (hasMore wr B L S ap cvs css lv0 st v xs H3.out (i : Int) at_ hxs hat).mono ?_; rw [HM.out]; rintro e w' ⟨rfl, rfl⟩)
            | (go_at_call 66; refine (writeString B b _ st.vert _ I3.out (by have := SL.out; omega) hBr).mono ?_; rintro e w4 ⟨rfl, h4, b4, k4⟩))
          have H4 := Aside0.mk h4
          have B4 := Aside0.mk b4
          have K4 := Aside0.mk (K3.out.step k4)
          clear h4 b4 k4
          go_roundg (gk - 1)
          case measure => have := HK.out; omega
          case rel => exact ⟨i + 1, by go_num, ⟨by have := HK.out; omega⟩, ⟨by rw [prefL_succ, HM.out, if_pos rfl, ← List.append_assoc, Lib.byteCells_append]; exact Or.inr H4.out⟩, ⟨B3.out.trans B4.out⟩, K4⟩
        | false =>
          have HM := Aside0.mk hm
          go_wp2_with (first
            | (go_at_call 49; refine (hasMore wr B L S ap cvs css lv0 st v xs H3.out (i : Int) at_ hxs hat).mono ?_; rw [HM.out]; rintro e w' ⟨rfl, rfl⟩)
            | (go_at_call 66; refine (writeString B b _ cvs _ I3.out (by have := SL.out; omega) hBr).mono ?_; rintro e w4 ⟨rfl, h4, b4, k4⟩))
          have H4 := Aside0.mk h4
          have B4 := Aside0.mk b4
          have K4 := Aside0.mk (K3.out.step k4)
          clear h4 b4 k4
          go_roundg (gk - 1)
          case measure => have := HK.out; omega
          case rel => exact ⟨i + 1, by go_num, ⟨by have := HK.out; omega⟩, ⟨by rw [prefL_succ, HM.out, if_neg (by decide), ← List.append_assoc, Lib.byteCells_append]; exact Or.inr H4.out⟩, ⟨B3.out.trans B4.out⟩, K4⟩
      · have p1 : decide ((i : Int) < (n : Int)) = false := decide_eq_false (by omega)
        go_wp2
        go_end0
        have hin : i = n := by have := HK.out; omega
        exact ⟨rfl, by rw [← hin]; exact I3.out, B3.out, K3.out⟩
end

section
open Go.RowKit Go.Proofs.YtmakcmggicedfaaDoorW.PrintWords Go.Proofs.YtmakcmggicedfaaDoor.Base
set_option linter.unusedVariables false
set_option linter.unusedSimpArgs false

theorem ok_blk {e : TypeId} {b h : Nat} {w w' : World} {cs : Array Value} {t : TypeId} {f : Nat × Nat} (k : Lib.OthersKept e (some b) w w') (hh : w.heap[h]? = some (.cells cs t f)) (hb : h ≠ b) (ht : t ≠ e) : w'.heap[h]? = some (.cells cs t f) :=
  k h _ hh (by simpa using hb) (fun c fz e => by simp only [Obj.cells.injEq] at e; exact ht e.2.1)
theorem isb_used {B b : Nat} {bs : List Value} {w : World} (h : Lib.BuilderAtF 73 5 B b (.pointer (some ⟨b, 0, none⟩)) bs w) : Lib.IsBuilderF 73 5 B b bs w := Or.inr h
theorem isb_keep {B b : Nat} {bs : List Value} {w w' : World} (h : Lib.IsBuilderF 73 5 B b bs w) (hb : Below w.heap.size w w') : Lib.IsBuilderF 73 5 B b bs w' := by
  have key : ∀ p, Lib.BuilderAtF 73 5 B b p bs w → Lib.BuilderAtF 73 5 B b p bs w' := by
    rintro p ⟨hB, v, hv, hown, hne⟩
    refine ⟨hB, v, blk_below hv hb, ?_, hne⟩
    obtain ⟨h1, h2⟩ := hown
    refine ⟨h1, ?_⟩
    rcases h2 with h2 | ⟨g, cap, cur, fz, hv2, hg, hh, r⟩
    · exact .inl h2
    · exact .inr ⟨g, cap, cur, fz, hv2, hg, blk_below hh hb, r⟩
  rcases h with h | h
  · exact Or.inl (key _ h)
  · exact Or.inr (key _ h)

def hintB (t f o l m : Bool) : Array Value := #[.bool t, .bool f, .bool o, .bool l, .bool m]
def bulletOf (st : Sty) (t f o l m : Bool) : ByteArray := if o then (if t then st.single else st.bottom) else if t then st.top else if f then st.first else if m || l then st.bottom else st.middle
theorem bulletOf_size (st : Sty) (t f o l m : Bool) (z1 : st.single.size ≤ 1000000) (z2 : st.top.size ≤ 1000000) (z3 : st.first.size ≤ 1000000) (z4 : st.middle.size ≤ 1000000) (z5 : st.bottom.size ≤ 1000000) : (bulletOf st t f o l m).size ≤ 1000000 := by
  unfold bulletOf
  repeat' split
  all_goals assumption
theorem blank_bytes {B b : Nat} {l : List UInt8} {w : World} (h : Lib.BuilderAtF 73 5 B b (.pointer (some ⟨b, 0, none⟩)) (Lib.byteCells l ++ Lib.runeCells 32) w) : Lib.IsBuilderF 73 5 B b (Lib.byteCells (l ++ [32])) w := by
  rw [Lib.byteCells_append, ← show Lib.runeCells 32 = Lib.byteCells [32] from runeCells_ascii 32 (by omega)]
  exact Or.inr h

set_option maxHeartbeats 16000000 in
set_option maxRecDepth 100000 in
theorem bulletSingle (w : World) (B L S b : Nat) (ap : Int) (cvs css : ByteArray) (lv0 : Int) (st : Sty) (v : Value) (xs : List (Int × ByteArray)) (H : ListIn w B L S ap cvs css lv0 st v xs) (bs : List UInt8) (hbl : Lib.IsBuilderF 73 5 B b (Lib.byteCells bs) w) (hBw : B ≤ w.heap.size)
    (z1 : st.single.size ≤ 1000000) (z2 : st.top.size ≤ 1000000) (z3 : st.first.size ≤ 1000000) (z4 : st.middle.size ≤ 1000000) (z5 : st.bottom.size ≤ 1000000) (hb : bs.length ≤ 10000000000000) (t f o l m : Bool) :
    Calls Tryd.prog 80 #[.pointer (some ⟨L, 0, none⟩), .pointer (some ⟨b, 0, none⟩), .agg (hintB t f o l m)] w fun e w' => e = .returned (.tuple #[]) ∧ Lib.IsBuilderF 73 5 B b (Lib.byteCells (bs ++ (bulletOf st t f o l m).data.toList ++ [32])) w' ∧ Below B w w' := by
  have HL := Aside0.mk H
  have HI := Aside0.mk hbl
  have hbz := bulletOf_size st t f o l m z1 z2 z3 z4 z5
  have hbl2 : (Lib.byteCells bs).length ≤ 10000000000000 := by rw [Lib.byteCells_length]; exact hb
  have hbl3 : (Lib.byteCells (bs ++ (bulletOf st t f o l m).data.toList)).length ≤ 20000000000000 := by rw [Lib.byteCells_length, List.length_append, ← size_list]; omega
  clear H hbl
  unfold hintB
  go_enter Tryd.func80, Tryd.ntmps80
  go_upto_if 7 with (fail)
  have I1 : Aside0 (Lib.IsBuilderF 73 5 B b (Lib.byteCells bs) (w.alloc (.cells (hintB t f o l m) 80))) := ⟨isb_keep HI.out (below_alloc (Below.refl _ _) _)⟩
  have B1 : Aside0 (Below B w (w.alloc (.cells (hintB t f o l m) 80))) := ⟨(Below.refl B w).alloc hBw _⟩
  have L1 := Aside0.mk (HL.out.below B1.out)
  have HH : Aside0 ((w.alloc (.cells (hintB t f o l m) 80)).heap[w.heap.size]? = some (.cells (hintB t f o l m) 80 (0, 0))) := ⟨blk_new _ _⟩
  have hB1 : B ≤ (w.alloc (.cells (hintB t f o l m) 80)).heap.size := Nat.le_trans hBw B1.out.size
  change Code.wp _ _ _ _ (w.alloc (.cells (hintB t f o l m) 80))
  obtain ⟨h, hh⟩ : ∃ h, w.heap.size = h := ⟨_, rfl⟩
  rw [hh] at HH ⊢
  clear HI HL hh
  generalize (w.alloc (.cells (hintB t f o l m) 80)) = w1 at HH I1 B1 L1 hB1 ⊢
  go_cut [] (fun wc => Aside0 (Lib.IsBuilderF 73 5 B b (Lib.byteCells (bs ++ (bulletOf st t f o l m).data.toList)) wc) ∧ Aside0 (Below B w wc))
  case first =>
    obtain ⟨_, _, hS, hL, _⟩ := L1.out
    have d0 : w1.cell? ⟨h, 0, none⟩ = some (.bool t) := by rw [blk_cell HH.out]; rfl
    have d1 : w1.cell? ⟨h, 1, none⟩ = some (.bool f) := by rw [blk_cell HH.out]; rfl
    have d3 : w1.cell? ⟨h, 3, none⟩ = some (.bool l) := by rw [blk_cell HH.out]; rfl
    have d4 : w1.cell? ⟨h, 4, none⟩ = some (.bool m) := by rw [blk_cell HH.out]; rfl
    have c5 : w1.cell? ⟨L, 5, none⟩ = some (.pointer (some ⟨S, 0, none⟩)) := by rw [blk_cell hL]; rfl
    have s1 : w1.cell? ⟨S, 1, none⟩ = some (.string st.single) := by rw [blk_cell hS]; rfl
    have s2 : w1.cell? ⟨S, 2, none⟩ = some (.string st.top) := by rw [blk_cell hS]; rfl
    have s3 : w1.cell? ⟨S, 3, none⟩ = some (.string st.first) := by rw [blk_cell hS]; rfl
    have s4 : w1.cell? ⟨S, 4, none⟩ = some (.string st.middle) := by rw [blk_cell hS]; rfl
    have s6 : w1.cell? ⟨S, 6, none⟩ = some (.string st.bottom) := by rw [blk_cell hS]; rfl
    clear hS hL L1 HH hbl3 hbz
    have fin : ∀ (x : ByteArray) (w2 : World), bulletOf st t f o l m = x → Lib.BuilderAtF 73 5 B b (.pointer (some ⟨b, 0, none⟩)) (Lib.byteCells bs ++ Lib.strCells x) w2 → Lib.IsBuilderF 73 5 B b (Lib.byteCells (bs ++ (bulletOf st t f o l m).data.toList)) w2 := by
      intro x w2 e h2
      rw [e, Lib.byteCells_append]
      exact Or.inr h2
    have FIN := Aside0.mk fin
    clear fin
    cases o with
    | true =>
      cases t with
      | true =>
        go_wp2_with (go_at_call 66; refine (writeString B b _ st.single _ I1.out (by omega) hB1).mono ?_; rintro e w2 ⟨rfl, i2, b2, k2⟩; have I2 := Aside0.mk (FIN.out _ _ rfl i2); have B2 := Aside0.mk (B1.out.trans b2); clear i2 b2 k2)
        go_meet
        case rel => exact ⟨I2, B2⟩
      | false =>
        go_wp2_with (go_at_call 66; refine (writeString B b _ st.bottom _ I1.out (by omega) hB1).mono ?_; rintro e w2 ⟨rfl, i2, b2, k2⟩; have I2 := Aside0.mk (FIN.out _ _ rfl i2); have B2 := Aside0.mk (B1.out.trans b2); clear i2 b2 k2)
        go_meet
        case rel => exact ⟨I2, B2⟩
    | false =>
      cases t with
      | true =>
        go_wp2_with (go_at_call 66; refine (writeString B b _ st.top _ I1.out (by omega) hB1).mono ?_; rintro e w2 ⟨rfl, i2, b2, k2⟩; have I2 := Aside0.mk (FIN.out _ _ rfl i2); have B2 := Aside0.mk (B1.out.trans b2); clear i2 b2 k2)
        go_meet
        case rel => exact ⟨I2, B2⟩
      | false =>
        cases f with
        | true =>
          go_wp2_with (go_at_call 66; refine (writeString B b _ st.first _ I1.out (by omega) hB1).mono ?_; rintro e w2 ⟨rfl, i2, b2, k2⟩; have I2 := Aside0.mk (FIN.out _ _ rfl i2); have B2 := Aside0.mk (B1.out.trans b2); clear i2 b2 k2)
          go_meet
          case rel => exact ⟨I2, B2⟩
        | false =>
          cases m with
          | true =>
            go_wp2_with (go_at_call 66; refine (writeString B b _ st.bottom _ I1.out (by omega) hB1).mono ?_; rintro e w2 ⟨rfl, i2, b2, k2⟩; have I2 := Aside0.mk (FIN.out _ _ rfl i2); have B2 := Aside0.mk (B1.out.trans b2); clear i2 b2 k2)
            go_meet
            case rel => exact ⟨I2, B2⟩
          | false =>
            cases l with
            | true =>
              go_wp2_with (go_at_call 66; refine (writeString B b _ st.bottom _ I1.out (by omega) hB1).mono ?_; rintro e w2 ⟨rfl, i2, b2, k2⟩; have I2 := Aside0.mk (FIN.out _ _ rfl i2); have B2 := Aside0.mk (B1.out.trans b2); clear i2 b2 k2)
              go_meet
              case rel => exact ⟨I2, B2⟩
            | false =>
              go_wp2_with (go_at_call 66; refine (writeString B b _ st.middle _ I1.out (by omega) hB1).mono ?_; rintro e w2 ⟨rfl, i2, b2, k2⟩; have I2 := Aside0.mk (FIN.out _ _ rfl i2); have B2 := Aside0.mk (B1.out.trans b2); clear i2 b2 k2)
              go_meet
              case rel => exact ⟨I2, B2⟩
  case rest =>
    clear I1 B1 L1 HH hB1
    obtain ⟨I2, B2⟩ := hcut
    have hB2 : B ≤ wc.heap.size := Nat.le_trans hBw B2.out.size
    obtain ⟨cur, hcur⟩ : ∃ cur, bs ++ (bulletOf st t f o l m).data.toList = cur := ⟨_, rfl⟩
    rw [hcur] at I2 hbl3
    go_wp2_with (go_at_call 59; refine (writeRune B b (Lib.byteCells cur) 32 (by omega) (by omega) _ I2.out (by omega) hB2).mono ?_; rintro e w5 ⟨rfl, i5, b5, k5⟩; have I5 := Aside0.mk (blank_bytes i5); have B5 := Aside0.mk (B2.out.trans b5); clear i5 b5 k5)
    go_end0
    subst hcur
    exact ⟨rfl, I5.out, B5.out⟩
end

section
open Go.RowKit Go.Proofs.YtmakcmggicedfaaDoorW.PrintWords Go.Proofs.YtmakcmggicedfaaDoor.Base
set_option linter.unusedVariables false
set_option linter.unusedSimpArgs false

set_option maxHeartbeats 4000000 in
set_option maxRecDepth 100000 in
theorem applyDefault (s : ByteArray) (w : World) : Calls Tryd.prog 60 #[.int .i64 0, .string s] w fun e w' => e = .returned (.string s) ∧ w = w' := by
  go_enter Tryd.func60, Tryd.ntmps60
  go_wp2
  go_ret
  exact ⟨rfl, rfl⟩

set_option maxHeartbeats 8000000 in
set_option maxRecDepth 100000 in
theorem renderBullet (w : World) (B L S b : Nat) (ap : Int) (cvs css : ByteArray) (lv0 : Int) (st : Sty) (v : Value) (xs : List (Int × ByteArray)) (H : ListIn w B L S ap cvs css lv0 st v xs) (bs : List UInt8) (hbl : Lib.IsBuilderF 73 5 B b (Lib.byteCells bs) w) (hBw : B ≤ w.heap.size)
    (z1 : st.single.size ≤ 1000000) (z2 : st.top.size ≤ 1000000) (z3 : st.first.size ≤ 1000000) (z4 : st.middle.size ≤ 1000000) (z5 : st.bottom.size ≤ 1000000) (hb : bs.length ≤ 10000000000000) (t f o l m : Bool) :
    Calls Tryd.prog 65 #[.pointer (some ⟨L, 0, none⟩), .pointer (some ⟨b, 0, none⟩), .int .i64 0, .agg (hintB t f o l m)] w fun e w' => e = .returned (.tuple #[]) ∧ Lib.IsBuilderF 73 5 B b (Lib.byteCells (bs ++ (bulletOf st t f o l m).data.toList ++ [32])) w' ∧ Below B w w' := by
  have HL := Aside0.mk H
  have HI := Aside0.mk hbl
  clear H hbl
  unfold hintB
  go_enter Tryd.func65, Tryd.ntmps65
  go_wp2_with (go_at_call 80; refine (bulletSingle _ B L S b ap cvs css lv0 st v xs (HL.out.below ((Below.refl B w).alloc hBw _)) bs (isb_keep HI.out (below_alloc (Below.refl _ _) _)) (by simp; omega) z1 z2 z3 z4 z5 hb t f o l m).mono ?_; rintro e w2 ⟨rfl, i2, b2⟩)
  go_end0
  exact ⟨rfl, i2, ((Below.refl B w).alloc hBw _).trans b2⟩
end

section
open Go.RowKit Go.Proofs.YtmakcmggicedfaaDoorW.PrintWords Go.Proofs.YtmakcmggicedfaaDoor.Base
set_option linter.unusedVariables false
set_option linter.unusedSimpArgs false

def nlT (i : Nat) : List UInt8 := if 0 < i then [10] else []
theorem nl_bytes {B b i : Nat} {l : List UInt8} {w : World} (hi : 0 < i) (h : Lib.BuilderAtF 73 5 B b (.pointer (some ⟨b, 0, none⟩)) (Lib.byteCells l ++ Lib.runeCells 10) w) : Lib.IsBuilderF 73 5 B b (Lib.byteCells (l ++ nlT i)) w := by
  have e : nlT i = [10] := by unfold nlT; rw [if_pos hi]
  rw [e, Lib.byteCells_append, ← show Lib.runeCells 10 = Lib.byteCells [10] from runeCells_ascii 10 (by omega)]
  exact Or.inr h

set_option maxHeartbeats 16000000 in
set_option maxRecDepth 100000 in
theorem renderItem (w : World) (B L S b : Nat) (ap : Int) (cvs css : ByteArray) (lv0 : Int) (st : Sty) (v : Value) (xs : List (Int × ByteArray)) (H : ListIn w B L S ap cvs css lv0 st v xs) (bs : List UInt8) (hbl : Lib.IsBuilderF 73 5 B b (Lib.byteCells bs) w) (hBw : B ≤ w.heap.size) (hbw : b < w.heap.size)
    (z1 : st.single.size ≤ 1000000) (z2 : st.top.size ≤ 1000000) (z3 : st.first.size ≤ 1000000) (z4 : st.middle.size ≤ 1000000) (z5 : st.bottom.size ≤ 1000000) (z6 : st.pre.size ≤ 1000000) (z7 : st.vert.size ≤ 1000000) (z8 : cvs.size ≤ 1000000) (hfmt : st.fmt = 0) (hb : bs.length ≤ 1000000000000)
    (i n p : Nat) (tx : ByteArray) (hi : i ≤ 1000000) (hn : n ≤ 1000) (hxs : xs.length ≤ 1000000) (hp : p < B) (hpc : w.heap[p]? = some (.cells #[.int .i64 (n : Int), .string tx] 77 (0, 0))) (hfl : Flat tx) (t f o l m : Bool) :
    Calls Tryd.prog 50 #[.pointer (some ⟨L, 0, none⟩), .pointer (some ⟨b, 0, none⟩), .int .i64 (i : Int), .pointer (some ⟨p, 0, none⟩), .agg (hintB t f o l m)] w fun e w' => e = .returned (.tuple #[]) ∧ Lib.IsBuilderF 73 5 B b (Lib.byteCells (bs ++ nlT i ++ prefL st.pre.data.toList st.vert.data.toList cvs.data.toList (lvs xs (i + 1)) n ++ (bulletOf st t f o l m).data.toList ++ [32] ++ tx.data.toList)) w' ∧ Below B w w' := by
  have HL := Aside0.mk H
  have HI := Aside0.mk hbl
  have HP := Aside0.mk hpc
  have hbl2 : (Lib.byteCells bs).length ≤ 1000000000000 := by rw [Lib.byteCells_length]; exact hb
  have hbl3 : (Lib.byteCells (bs ++ nlT i)).length ≤ 1000000000001 := by
    rw [Lib.byteCells_length, List.length_append]
    have : (nlT i).length ≤ 1 := by unfold nlT; split <;> simp
    omega
  clear H hbl hpc
  unfold hintB
  go_enter Tryd.func50, Tryd.ntmps50
  go_upto_if 14 with (fail)
  have I1 : Aside0 (Lib.IsBuilderF 73 5 B b (Lib.byteCells bs) (w.alloc (.cells (hintB t f o l m) 80))) := ⟨isb_keep HI.out (below_alloc (Below.refl _ _) _)⟩
  have B1 : Aside0 (Below B w (w.alloc (.cells (hintB t f o l m) 80))) := ⟨(Below.refl B w).alloc hBw _⟩
  have HH : Aside0 ((w.alloc (.cells (hintB t f o l m) 80)).heap[w.heap.size]? = some (.cells (hintB t f o l m) 80 (0, 0))) := ⟨blk_new _ _⟩
  have hB1 : B ≤ (w.alloc (.cells (hintB t f o l m) 80)).heap.size := Nat.le_trans hBw B1.out.size
  change Code.wp _ _ _ _ (w.alloc (.cells (hintB t f o l m) 80))
  obtain ⟨h, hh⟩ : ∃ h, w.heap.size = h := ⟨_, rfl⟩
  rw [hh] at HH ⊢
  have hhb : h ≠ b := by omega
  clear HI hh
  generalize (w.alloc (.cells (hintB t f o l m) 80)) = w1 at HH I1 B1 hB1 ⊢
  go_cut [] (fun wc => Aside0 (Lib.IsBuilderF 73 5 B b (Lib.byteCells (bs ++ nlT i)) wc) ∧ Aside0 (wc.heap[h]? = some (.cells (hintB t f o l m) 80 (0, 0))) ∧ Aside0 (Below B w wc))
  case first =>
    by_cases h0 : 0 < i
    · have d1 : decide ((0 : Int) < (i : Int)) = true := decide_eq_true (by omega)
      have d2 : decide (0 < i) = true := decide_eq_true h0
      go_wp2_with (go_at_call 59; refine (writeRune B b (Lib.byteCells bs) 10 (by omega) (by omega) _ I1.out (by omega) hB1).mono ?_; rintro e w5 ⟨rfl, i5, b5, k5⟩; have I5 := Aside0.mk (nl_bytes h0 i5); have h5 := Aside0.mk (ok_blk k5 HH.out hhb (by decide)); have B5 := Aside0.mk (B1.out.trans b5); clear i5 b5 k5)
      go_meet
      case rel => exact ⟨I5, h5, B5⟩
    · have d1 : decide ((0 : Int) < (i : Int)) = false := decide_eq_false (by omega)
      have d2 : decide (0 < i) = false := decide_eq_false h0
      go_wp2
      go_meet
      case rel => exact ⟨⟨by unfold nlT; rw [if_neg h0, List.append_nil]; exact I1.out⟩, HH, B1⟩
  case rest =>
    clear I1 B1 HH hB1
    obtain ⟨I2, HH, B2⟩ := hcut
    obtain ⟨cur, hcur⟩ : ∃ cur, bs ++ nlT i = cur := ⟨_, rfl⟩
    rw [hcur] at I2 hbl3
    go_upto_region 3 with (fail)
    go_cut [10] (fun v10 wc => v10 = .string tx ∧ Aside0 (Lib.IsBuilderF 73 5 B b (Lib.byteCells cur) wc) ∧ Aside0 (wc.heap[h]? = some (.cells (hintB t f o l m) 80 (0, 0))) ∧ Aside0 (Below B w wc))
    case first =>
      obtain ⟨_, _, hS, hL, _⟩ := (HL.out.below B2.out)
      have c5 : wc.cell? ⟨L, 5, none⟩ = some (.pointer (some ⟨S, 0, none⟩)) := by rw [blk_cell hL]; rfl
      have s0 : wc.cell? ⟨S, 0, none⟩ = some (.int .i64 0) := by rw [blk_cell hS, ← hfmt]; rfl
      have p1 : wc.cell? ⟨p, 1, none⟩ = some (.string tx) := by rw [blk_cell ((B2.out.block p hp).trans HP.out)]; rfl
      clear hS hL
      go_region_with (go_at_call 60; refine (applyDefault tx _).mono ?_; rintro e w' ⟨rfl, rfl⟩)
      all_goals
        go_wp2_with fail
        go_meet
        case rel => exact ⟨rfl, I2, HH, ⟨below_drew1 B2.out⟩⟩
    case rest =>
      clear I2 HH B2
      obtain ⟨rfl, I3, HH, B3⟩ := hcut
      have hz : tx.size ≤ 1000000000 := by have := hfl.size; omega
      go_upto_if 40 with (first
        | (go_at_call 61; refine (containsNone_list tx ⟨#[10]⟩ 10 [] rfl hfl.lf hz (by decide) _).mono ?_; rintro e w3 ⟨rfl, ⟨nd, rfl⟩⟩))
      have I4 := Aside0.mk (isb_keep I3.out (pw_below_drewN (Below.refl _ _) nd))
      go_wp2_with (go_at_call 63; refine (splitNone tx ⟨#[10]⟩ 10 [] rfl hfl.lf hz (by decide) _).mono ?_; rintro e w4 ⟨v0, rfl, hr, b4⟩; obtain ⟨A, c, hv, hc1, hC⟩ := Kd.R_reads hr; have hv : v0 = .slice A 1 c := hv; subst hv; obtain ⟨ad, hA, hx⟩ := Kd.at_string hC 0 (by omega) (by simp); have hx : w4.cell? (ad.add 0) = some (.string tx) := hx; subst hA; have I5 := Aside0.mk (isb_keep I4.out b4); have H5 := Aside0.mk (blk_below (show (wc.drewN nd).heap[h]? = _ from HH.out) b4); have B5 := Aside0.mk ((B3.out.trans (Below.mono (pw_below_drewN (Below.refl wc.heap.size wc) nd) (Nat.le_trans hBw B3.out.size))).trans (b4.mono (Nat.le_trans hBw B3.out.size))); clear hr b4 hC hc1)
      clear I3 HH B3 I4
      have hb5 : B ≤ w4.heap.size := Nat.le_trans hBw B5.out.size
      have hcl : cur.length ≤ 1000000000001 := by rw [← Lib.byteCells_length]; exact hbl3
      go_loopg [53] 1 (fun kq v53 w' => (v53 = .int .i64 0 ∧ kq = 1 ∧ w'.cell? (ad.add 0) = some (.string tx) ∧ Aside0 (Lib.IsBuilderF 73 5 B b (Lib.byteCells cur) w') ∧ Aside0 (w'.heap[h]? = some (.cells (hintB t f o l m) 80 (0, 0))) ∧ Aside0 (Below B w w')) ∨ (v53 = .int .i64 1 ∧ Aside0 (Lib.IsBuilderF 73 5 B b (Lib.byteCells (cur ++ prefL st.pre.data.toList st.vert.data.toList cvs.data.toList (lvs xs (i + 1)) n ++ (bulletOf st t f o l m).data.toList ++ [32] ++ tx.data.toList)) w') ∧ Aside0 (Below B w w')))
      case atStart => exact .inl ⟨rfl, rfl, hx, I5, H5, B5⟩
      case round =>
        clear I5 H5 B5 hx hb5
        rcases hrel with ⟨rfl, rfl, hx, I6, H6, B6⟩ | ⟨rfl, I6, B6⟩
        · have hb6 : B ≤ wr.heap.size := Nat.le_trans hBw B6.out.size
          have hk6 : HintKept b h (hintB t f o l m) wr := ⟨hhb, H6.out⟩
          have hp0 : wr.cell? ⟨p, 0, none⟩ = some (.int .i64 (n : Int)) := by rw [blk_cell ((B6.out.block p hp).trans HP.out)]; rfl
          have hpl := prefL_len st.pre.data.toList st.vert.data.toList cvs.data.toList (lvs xs (i + 1)) 1000000 (by rw [← size_list]; omega) (by rw [← size_list]; omega) n
          rw [← size_list] at hpl
          have hn6 : n * 1000000 ≤ 1000 * 1000000 := Nat.mul_le_mul_right _ hn
          have hbz := bulletOf_size st t f o l m z1 z2 z3 z4 z5
          rw [size_list] at hbz
          have hl7 : (cur ++ prefL st.pre.data.toList st.vert.data.toList cvs.data.toList (lvs xs (i + 1)) n).length ≤ 2000000000000 := by rw [List.length_append]; omega
          have hl8 : (Lib.byteCells (cur ++ prefL st.pre.data.toList st.vert.data.toList cvs.data.toList (lvs xs (i + 1)) n ++ (bulletOf st t f o l m).data.toList ++ [32])).length ≤ 3000000000000 := by rw [Lib.byteCells_length, List.length_append, List.length_append, List.length_singleton]; omega
          have htz := hfl.size
          generalize hP : prefL st.pre.data.toList st.vert.data.toList cvs.data.toList (lvs xs (i + 1)) n = P at hl7 hl8
          have RP := Aside0.mk (renderPrefixK h (hintB t f o l m) wr B L S b ap cvs css lv0 st v xs (HL.out.below B6.out) cur I6.out hb6 hk6 i n (by omega) (by omega) (by omega) z6 z7 z8 (by omega))
          clear hpl hn6 hbz H6 hbl2 hbl3 hk6
          have hx0 : wr.cell? ad = some (.string tx) := by rw [← show ad.add 0 = ad from by cases ad; unfold Addr.add; split <;> simp_all]; exact hx
          have hx1 : wr.cell? (ad.add ((0 : Int).toNat)) = some (.string tx) := hx
          go_upto_region 9 with (fail)
          go_wp2_with (first
            | (go_at_call 64; refine RP.out.mono ?_; rintro e w7 ⟨rfl, i7, b7, k7⟩; rw [hP] at i7; have I7 := Aside0.mk i7; have B7 := Aside0.mk (B6.out.trans b7); have hb7 := Nat.le_trans hb6 b7.size; have e0 : w7.cell? ⟨h, 0, none⟩ = some (.bool t) := (by rw [blk_cell k7.2]; rfl); have e1 : w7.cell? ⟨h, 1, none⟩ = some (.bool f) := (by rw [blk_cell k7.2]; rfl); have e2 : w7.cell? ⟨h, 2, none⟩ = some (.bool o) := (by rw [blk_cell k7.2]; rfl); have e3 : w7.cell? ⟨h, 3, none⟩ = some (.bool l) := (by rw [blk_cell k7.2]; rfl); have e4 : w7.cell? ⟨h, 4, none⟩ = some (.bool m) := (by rw [blk_cell k7.2]; rfl); clear i7 b7 k7)
            | (go_at_call 65; refine (renderBullet w7 B L S b ap cvs css lv0 st v xs (HL.out.below B7.out) (cur ++ P) I7.out hb7 z1 z2 z3 z4 z5 (by omega) t f o l m).mono ?_; rintro e w8 ⟨rfl, i8, b8⟩; have I8 := Aside0.mk i8; have B8 := Aside0.mk (B7.out.trans b8); have hb8 := Nat.le_trans hb7 b8.size; clear i8 b8)
            | (go_at_call 66; refine (writeString B b _ tx _ I8.out (by omega) hb8).mono ?_; rintro e w9 ⟨rfl, i9, b9, k9⟩; have I9 := Aside0.mk (show Lib.IsBuilderF 73 5 B b (Lib.byteCells (cur ++ P ++ (bulletOf st t f o l m).data.toList ++ [32] ++ tx.data.toList)) w9 from (by rw [Lib.byteCells_append]; exact Or.inr i9)); have B9 := Aside0.mk (B8.out.trans b9); clear i9 b9 k9))
          go_roundg 0
          case measure => omega
          case rel => exact .inr ⟨rfl, ⟨by rw [hP]; exact I9.out⟩, B9⟩
        · go_wp2
          go_end0
          subst hcur
          exact ⟨rfl, I6.out, B6.out⟩
end
end Go.Proofs.YtmakcmggicedfaaDoor.Hand
