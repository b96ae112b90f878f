/- A converter whose first field is a strings.Builder: what the builder's methods do to it. -/
import Derived.Test.YtbnmahbghcjbaaaGreatDoorShelf
import Derived.Test.YtbnmahbghcjbaaaGreatDoorBase
import Derived.Test.YtbnmahbghcjbaaaGreatDoorIt
import Derived.Shelf.Strings.BuilderK
import Derived.Lib.OthersKept
import Derived.Lib.RuneBytes
import Derived.BigCall
import Derived.RegionTactic
import Derived.Handy
import Derived.WalkKit
import Derived.OwnWalk
namespace Go.Proofs.YtbnmahbghcjbaaaGreatDoor.Hand
open Go.Shelf Go.RowKit Go.Proofs Go.Proofs.YtbnmahbghcjbaaaGreatDoorW.PrintWords Go.Proofs.YtbnmahbghcjbaaaGreatDoor.Base
set_option linter.unusedVariables false
set_option linter.unusedSimpArgs false

/-- The converter's cells: the builder's address and bytes; the parser that is in no sequence; the colors' map. -/
def cnv (p v m : Value) : Array Value := #[p, v, .map none, .bool false, .int .i64 0, .slice none 0 0, m]
def SpanAt (B C : Nat) (p v m : Value) (bs : List Value) (w : World) : Prop :=
  B ≤ C ∧ w.heap[C]? = some (.cells (cnv p v m) 35 (0, 0)) ∧ w.ownsRowF B 5 1 v bs.length bs
section
variable {B C : Nat} {p v m : Value} {bs : List Value} {w : World}
theorem SpanAt.cell (h : SpanAt B C p v m bs w) (i : Nat) : w.cell? ⟨C, i, none⟩ = (cnv p v m)[i]? := by rw [Lib.cell_of_heap h.2.1]
theorem SpanAt.frozen (h : SpanAt B C p v m bs w) (i : Nat) : w.frozen? ⟨C, i, none⟩ = false := Lib.frozen_of_heap h.2.1 i
theorem SpanAt.ne (h : SpanAt B C p v m bs w) : v.ownBlock ≠ some C := Lib.ownBlock_neF h.2.2 h.2.1 (by decide)
theorem SpanAt.lt (h : SpanAt B C p v m bs w) : C < w.heap.size := blk_lt h.2.1
theorem SpanAt.used (h : SpanAt B C p v m bs w) (q : Value) : SpanAt B C q v m bs (w.setCell ⟨C, 0, none⟩ q) := by
  refine ⟨h.1, blk_put h.2.1 0 q rfl, ?_⟩
  refine h.2.2.kept (row := some C) ⟨rfl, rfl, rfl, by simp [World.setCell], fun k _ hk => Below.heap_setCell _ _ _ _ (fun e => hk (by simp [e]))⟩ (Or.inr h.ne)
theorem SpanAt.put {v' : Value} {bs' : List Value} (h1 : B ≤ C) (h2 : w.heap[C]? = some (.cells (cnv p v m) 35 (0, 0))) (ho : w.ownsRowF B 5 1 v' bs'.length bs') : SpanAt B C p v' m bs' (w.setCell ⟨C, 1, none⟩ v') := by
  have hne := Lib.ownBlock_neF ho h2 (by decide)
  refine ⟨h1, blk_put h2 1 v' rfl, ?_⟩
  refine ho.kept (row := some C) ⟨rfl, rfl, rfl, by simp [World.setCell], fun k _ hk => Below.heap_setCell _ _ _ _ (fun e => hk (by simp [e]))⟩ (Or.inr hne)
end

set_option maxHeartbeats 2000000 in
set_option maxRecDepth 100000 in
theorem copyCheck_used (b : Nat) (w : World) (h0 : w.cell? ⟨b, 0, none⟩ = some (.pointer (some ⟨b, 0, none⟩))) :
    Calls Tryz.prog 32 #[.pointer (some ⟨b, 0, none⟩)] w fun e w' => e = .returned (.tuple #[]) ∧ w' = w := by
  obtain ⟨j, hj, _⟩ := Option.map_eq_some_iff.1 (show (Tryz.prog.info? 30).map (·.size) = some 2 by kernel_rfl)
  go_enter Tryz.func32, Tryz.ntmps32
  go_wp2
  rw [Lib.run_neq_ptr_same w _ Tryz.underlying27 hj]
  go_wp2
  go_end0
  exact ⟨rfl, rfl⟩
set_option maxHeartbeats 2000000 in
set_option maxRecDepth 100000 in
theorem copyCheck_fresh (b : Nat) (w : World) (h0 : w.cell? ⟨b, 0, none⟩ = some (.pointer none)) (hsh : w.shape? b = some (35, 7)) (hfz : w.frozen? ⟨b, 0, none⟩ = false) :
    Calls Tryz.prog 32 #[.pointer (some ⟨b, 0, none⟩)] w fun e w' => e = .returned (.tuple #[]) ∧ w' = w.setCell ⟨b, 0, none⟩ (.pointer (some ⟨b, 0, none⟩)) := by
  obtain ⟨j, hj, hjs⟩ := Option.map_eq_some_iff.1 (show (Tryz.prog.info? 30).map (·.size) = some 2 by kernel_rfl)
  go_enter Tryz.func32, Tryz.ntmps32
  go_wp2
  rw [Lib.run_to_unsafe w ⟨b, 0, none⟩ Tryz.underlying27 Tryz.underlying66 hj (by rw [hjs]; decide) hsh (show 0 < 7 by decide)]
  simp only [Result.andThen]
  rw [Oper.upon_value]
  go_wp2
  rw [run_callFunc_extern Tryz.func42 (by kernel_rfl) (by kernel_rfl) (by kernel_rfl) (e := Extern.AbiNoEscape.same) (by kernel_rfl)]
  rw [Lib.run_noEscape]
  simp only [Result.andThen]
  rw [Oper.upon_value]
  go_wp2
  rw [Lib.run_from_unsafe w ⟨b, 0, none⟩ Tryz.underlying66 Tryz.underlying27 hj hsh (by kernel_rfl)]
  simp only [Result.andThen]
  rw [Oper.upon_value]
  go_wp2
  go_end0
  exact ⟨rfl, rfl⟩
def PtrOf (C : Nat) (p : Value) : Prop := p = .pointer none ∨ p = .pointer (some ⟨C, 0, none⟩)
theorem copyCheck (B C : Nat) (p v m : Value) (bs : List Value) (w : World) (h : SpanAt B C p v m bs w) (hp : PtrOf C p) :
    Calls Tryz.prog 32 #[.pointer (some ⟨C, 0, none⟩)] w fun e w' => e = .returned (.tuple #[]) ∧ (SpanAt B C (.pointer (some ⟨C, 0, none⟩)) v m bs w' ∧ Below B w w' ∧ Lib.OthersKept 5 (some C) w w') := by
  rcases hp with rfl | rfl
  · refine (copyCheck_fresh C w (by rw [h.cell]; rfl) (by simp [World.shape?, h.2.1, cnv]) (h.frozen 0)).mono ?_
    rintro e w' ⟨rfl, rfl⟩
    exact ⟨rfl, h.used _, (Below.refl B w).setCell (p := ⟨C, 0, none⟩) h.1 _, (Lib.OthersKept.refl _ _ w).setCell ⟨C, 0, none⟩ rfl _⟩
  · refine (copyCheck_used C w (by rw [h.cell]; rfl)).mono ?_
    rintro e w' ⟨rfl, rfl⟩
    exact ⟨rfl, h, Below.refl B _, Lib.OthersKept.refl _ _ _⟩
theorem infoU8 : ∃ i, Tryz.prog.info? 5 = some i ∧ i.zero = some (.int .u8 0) ∧ i.size = 1 ∧ i.bytes = 1 := by
  obtain ⟨i, hi, h⟩ := Option.map_eq_some_iff.1 (show (Tryz.prog.info? 5).map (fun i => (i.zero, i.size, i.bytes)) = some (some (.int .u8 0), 1, 1) by kernel_rfl)
  simp only [Prod.mk.injEq] at h
  exact ⟨i, hi, h.1, h.2.1, h.2.2⟩

set_option maxHeartbeats 4000000 in
set_option maxRecDepth 100000 in
theorem writeString (B C : Nat) (p v m : Value) (bs : List Value) (s : ByteArray) (w : World) (h : SpanAt B C p v m bs w) (hp : PtrOf C p) (hlen : bs.length + s.size ≤ 140737488355328) (hBw : B ≤ w.heap.size) :
    Calls Tryz.prog 17 #[.pointer (some ⟨C, 0, none⟩), .string s] w fun e w' => e = .returned (.tuple #[.int .i64 s.size, .nilIface]) ∧ ((∃ v', SpanAt B C (.pointer (some ⟨C, 0, none⟩)) v' m (bs ++ Lib.strCells s) w') ∧ Below B w w' ∧ Lib.OthersKept 5 (some C) w w') := by
  obtain ⟨i0, hi, hz0, hz1, hz2⟩ := infoU8
  go_enter Tryz.func17, Tryz.ntmps17
  go_wp2_with (go_at_call 32; refine (copyCheck B C p v m bs _ h hp).mono ?_)
  rintro e w1 ⟨rfl, h1, hb1, hk1⟩
  obtain ⟨hB, hbk, hown⟩ := h1
  have hne := Lib.ownBlock_neF hown hbk (by decide)
  have c0 : w1.cell? ⟨C, 0, none⟩ = some (.pointer (some ⟨C, 0, none⟩)) := by rw [Lib.cell_of_heap hbk]; rfl
  have c1 : w1.cell? ⟨C, 1, none⟩ = some v := by rw [Lib.cell_of_heap hbk]; rfl
  go_wp2_with (at_builtin; refine Lib.wpList_append_own_stringF _ rfl _ _ 28 9 rfl B 5 i0 Tryz.underlying28 Tryz.underlying9 hi hz0 hz1 hz2 _ _ _ rfl hown s rfl ?c3 ?c4 ?c5 ?_)
  case c3 => unfold maxLen; omega
  case c4 => omega
  case c5 => have := hb1.size; omega
  intro v' w2 hown' hgrow _
  have hb2 : w2.heap[C]? = some (.cells (cnv (.pointer (some ⟨C, 0, none⟩)) v m) 35 (0, 0)) := by
    rw [hgrow.block C (blk_lt hbk) (fun e => hne e.symm)]
    exact hbk
  have d0 : w2.cell? ⟨C, 0, none⟩ = some (.pointer (some ⟨C, 0, none⟩)) := by rw [Lib.cell_of_heap hb2]; rfl
  have d1 : w2.cell? ⟨C, 1, none⟩ = some v := by rw [Lib.cell_of_heap hb2]; rfl
  have f1 : w2.frozen? ⟨C, 1, none⟩ = false := Lib.frozen_of_heap hb2 1
  obtain ⟨ao, n', cap, rfl⟩ : ∃ ao n' cap, v' = .slice ao n' cap := by
    rcases hown'.2 with ⟨hv, _⟩ | ⟨g, cap, cur, fz, hv, _⟩
    · exact ⟨_, _, _, hv⟩
    · exact ⟨_, _, _, hv⟩
  go_wp2
  go_ret2
  refine ⟨rfl, ⟨_, SpanAt.put (bs' := bs ++ Lib.strCells s) hB hb2 (by simpa [Lib.strCells_length] using hown')⟩, ?_, (hk1.grown hgrow (Lib.ownsRowF_kind hown)).setCell ⟨C, 1, none⟩ rfl _⟩
  exact (hb1.grown hgrow (by have := hb1.size; omega) (fun k hk => (hown.lt k hk).1)).setCell (p := ⟨C, 1, none⟩) hB _

set_option maxHeartbeats 4000000 in
set_option maxRecDepth 100000 in
theorem writeRune (B C : Nat) (p v m : Value) (bs : List Value) (r : Int) (hr0 : 0 ≤ r) (hr1 : r ≤ 127) (w : World) (h : SpanAt B C p v m bs w) (hp : PtrOf C p) (hlen : bs.length + 4 ≤ 140737488355328) (hBw : B ≤ w.heap.size) :
    Calls Tryz.prog 31 #[.pointer (some ⟨C, 0, none⟩), .int .i32 r] w fun e w' => (∃ x : Value, e = .returned x) ∧ ((∃ v', SpanAt B C (.pointer (some ⟨C, 0, none⟩)) v' m (bs ++ [.int .u8 r]) w') ∧ Below B w w' ∧ Lib.OthersKept 5 (some C) w w') := by
  have hk4 : Lib.runeCells r = [.int .u8 r] := by simp [Lib.runeCells, Lib.encodeRuneZ_one hr0 hr1]
  go_enter Tryz.func31, Tryz.ntmps31
  go_wp2_with (go_at_call 32; refine (copyCheck B C p v m bs _ h hp).mono ?_)
  rintro e w1 ⟨rfl, h1, hb1, hk1⟩
  obtain ⟨hB, hbk, hown⟩ := h1
  have hne := Lib.ownBlock_neF hown hbk (by decide)
  obtain ⟨ao, cap, rfl⟩ : ∃ ao cap, v = .slice ao bs.length cap := by
    rcases hown.2 with ⟨hv, h0⟩ | ⟨g, cap, cur, fz, hv, _⟩
    · exact ⟨none, 0, by rw [hv, h0]⟩
    · exact ⟨_, _, hv⟩
  have c0 : w1.cell? ⟨C, 0, none⟩ = some (.pointer (some ⟨C, 0, none⟩)) := by rw [Lib.cell_of_heap hbk]; rfl
  have c1 : w1.cell? ⟨C, 1, none⟩ = some (.slice ao bs.length cap) := by rw [Lib.cell_of_heap hbk]; rfl
  have ca := Tryz.utf8_AppendRune_row B (.slice ao bs.length cap) bs.length bs r (by omega) (by omega) w1 hown hlen (by have := hb1.size; omega)
  rw [hk4] at ca
  have CA := Aside0.mk ca
  clear ca hk4
  go_wp2_with ((go_at_call 20; with_reducible refine CA.out.mono ?_))
  rintro e w2 ⟨v', rfl, hown', o, hgrow⟩
  have hlt : C < w1.heap.size := blk_lt hbk
  have hb2 : w2.heap[C]? = some (.cells (cnv (.pointer (some ⟨C, 0, none⟩)) (.slice ao bs.length cap) m) 35 (0, 0)) := by
    rw [hgrow.block C (by simp; omega) (fun e => hne e.symm), Lib.alloc_old w1 _ C hlt]
    exact hbk
  have d0 : w2.cell? ⟨C, 0, none⟩ = some (.pointer (some ⟨C, 0, none⟩)) := by rw [Lib.cell_of_heap hb2]; rfl
  have d1 : w2.cell? ⟨C, 1, none⟩ = some (.slice ao bs.length cap) := by rw [Lib.cell_of_heap hb2]; rfl
  have f1 : w2.frozen? ⟨C, 1, none⟩ = false := Lib.frozen_of_heap hb2 1
  obtain ⟨g, cap', rfl⟩ : ∃ g cap', v' = .slice (some ⟨g, 0, none⟩) (bs.length + 1) cap' := by
    rcases hown'.2 with ⟨_, h0⟩ | ⟨g, cap', cur, fz, hv, _⟩
    · simp at h0
    · exact ⟨g, cap', hv⟩
  go_wp2
  go_ret2
  refine ⟨⟨_, rfl⟩, ⟨_, SpanAt.put (bs' := bs ++ [.int .u8 r]) hB hb2 (by simpa using hown')⟩, ?_, ((hk1.alloc _).grown hgrow (Lib.ownsRowF_kind (hown.alloc _))).setCell ⟨C, 1, none⟩ rfl _⟩
  exact ((hb1.alloc (by have := hb1.size; omega) _).grown hgrow (by have := hb1.size; simp; omega) (fun k hk => (hown.lt k hk).1)).setCell (p := ⟨C, 1, none⟩) hB _
end Go.Proofs.YtbnmahbghcjbaaaGreatDoor.Hand
