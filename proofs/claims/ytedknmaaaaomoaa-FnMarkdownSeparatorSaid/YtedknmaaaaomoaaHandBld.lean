/- What the writing methods of strings.Builder do to a builder that the call has made: the bytes grow; nothing else turns. -/
import Derived.Test.YtedknmaaaaomoaaShelf
import Derived.Test.YtedknmaaaaomoaaWMore
import Derived.Shelf.Strings.BuilderK
import Derived.BigCall
namespace Go.Proofs.Ytedknmaaaaomoaa.Hand
open Go.Shelf Go.RowKit Go.Proofs
set_option linter.unusedVariables false

set_option maxHeartbeats 2000000 in
set_option maxRecDepth 100000 in
/-- The builder's own check, at one that has been written. -/
theorem copyCheck_used (b : Nat) (w : World) (h0 : w.cell? ⟨b, 0, none⟩ = some (.pointer (some ⟨b, 0, none⟩))) :
    Calls Try.prog 36 #[.pointer (some ⟨b, 0, none⟩)] w fun e w' => e = .returned (.tuple #[]) ∧ w' = w := by
  obtain ⟨j, hj, _⟩ := Option.map_eq_some_iff.1 (show (Try.prog.info? 98).map (·.size) = some 2 by kernel_rfl)
  go_enter Try.func36, Try.ntmps36
  go_wp2
  rw [Lib.run_neq_ptr_same w _ Try.underlying95 hj]
  go_wp2
  go_end0
  exact ⟨rfl, rfl⟩

set_option maxHeartbeats 2000000 in
set_option maxRecDepth 100000 in
/-- The builder's own check, at a fresh one: it notes where it lies. -/
theorem copyCheck_fresh (b : Nat) (w : World) (h0 : w.cell? ⟨b, 0, none⟩ = some (.pointer none)) (hsh : w.shape? b = some (98, 2)) (hfz : w.frozen? ⟨b, 0, none⟩ = false) :
    Calls Try.prog 36 #[.pointer (some ⟨b, 0, none⟩)] w fun e w' => e = .returned (.tuple #[]) ∧ w' = w.setCell ⟨b, 0, none⟩ (.pointer (some ⟨b, 0, none⟩)) := by
  obtain ⟨j, hj, hjs⟩ := Option.map_eq_some_iff.1 (show (Try.prog.info? 98).map (·.size) = some 2 by kernel_rfl)
  go_enter Try.func36, Try.ntmps36
  go_wp2
  rw [Lib.run_to_unsafe w ⟨b, 0, none⟩ Try.underlying95 Try.underlying129 hj (by rw [hjs]; decide) hsh (Nat.zero_lt_succ 1)]
  simp only [Result.andThen]
  rw [Oper.upon_value]
  go_wp2
  rw [run_callFunc_extern Try.func42 (by kernel_rfl) (by kernel_rfl) (by kernel_rfl) (e := Extern.AbiNoEscape.same) (by kernel_rfl)]
  rw [Lib.run_noEscape]
  simp only [Result.andThen]
  rw [Oper.upon_value]
  go_wp2
  rw [Lib.run_from_unsafe w ⟨b, 0, none⟩ Try.underlying129 Try.underlying95 hj hsh (by kernel_rfl)]
  simp only [Result.andThen]
  rw [Oper.upon_value]
  go_wp2
  go_end0
  exact ⟨rfl, rfl⟩

theorem copyCheck (B b : Nat) (bs : List Value) (w : World) (h : Lib.IsBuilderF 98 5 B b bs w) :
    Calls Try.prog 36 #[.pointer (some ⟨b, 0, none⟩)] w fun e w' => e = .returned (.tuple #[]) ∧ (Lib.BuilderAtF 98 5 B b (.pointer (some ⟨b, 0, none⟩)) bs w' ∧ Below B w w' ∧ Lib.OthersKept 5 (some b) w w') := by
  rcases h with h | h
  · refine (copyCheck_fresh b w h.cell0 h.shape h.frozen0).mono ?_
    rintro e w' ⟨rfl, rfl⟩
    exact ⟨rfl, h.used _, (Below.refl B w).setCell (p := ⟨b, 0, none⟩) h.1 _, (Lib.OthersKept.refl _ _ w).setCell ⟨b, 0, none⟩ rfl _⟩
  · refine (copyCheck_used b w h.cell0).mono ?_
    rintro e w' ⟨rfl, rfl⟩
    exact ⟨rfl, h, Below.refl B _, Lib.OthersKept.refl _ _ _⟩

theorem infoU8 : ∃ i, Try.prog.info? 5 = some i ∧ i.zero = some (.int .u8 0) ∧ i.size = 1 ∧ i.bytes = 1 := by
  obtain ⟨i, hi, h⟩ := Option.map_eq_some_iff.1 (show (Try.prog.info? 5).map (fun i => (i.zero, i.size, i.bytes)) = some (some (.int .u8 0), 1, 1) by kernel_rfl)
  simp only [Prod.mk.injEq] at h
  exact ⟨i, hi, h.1, h.2.1, h.2.2⟩

set_option maxHeartbeats 4000000 in
set_option maxRecDepth 100000 in
/-- WriteString: the bytes are appended. -/
theorem writeString (B b : Nat) (bs : List Value) (s : ByteArray) (w : World) (h : Lib.IsBuilderF 98 5 B b bs w) (hlen : bs.length + s.size ≤ 140737488355328) (hBw : B ≤ w.heap.size) :
    Calls Try.prog 28 #[.pointer (some ⟨b, 0, none⟩), .string s] w fun e w' => e = .returned (.tuple #[.int .i64 s.size, .nilIface]) ∧ (Lib.BuilderAtF 98 5 B b (.pointer (some ⟨b, 0, none⟩)) (bs ++ Lib.strCells s) w' ∧ Below B w w' ∧ Lib.OthersKept 5 (some b) w w') := by
  obtain ⟨i0, hi, hz0, hz1, hz2⟩ := infoU8
  go_enter Try.func28, Try.ntmps28
  go_wp2_with (go_at_call 36; refine (copyCheck B b bs _ h).mono ?_)
  rintro e w1 ⟨rfl, h1, hb1, hk1⟩
  obtain ⟨hB, v, hbk, hown, hne⟩ := h1
  have c0 : w1.cell? ⟨b, 0, none⟩ = some (.pointer (some ⟨b, 0, none⟩)) := by rw [Lib.cell_of_heap hbk]; rfl
  have c1 : w1.cell? ⟨b, 1, none⟩ = some v := by rw [Lib.cell_of_heap hbk]; rfl
  go_wp2_with (at_builtin; refine Lib.wpList_append_own_stringF _ rfl _ _ 96 9 rfl B 5 i0 Try.underlying96 Try.underlying9 hi hz0 hz1 hz2 _ _ _ rfl hown s rfl ?c3 ?c4 ?c5 ?_)
  case c3 => unfold maxLen; omega
  case c4 => omega
  case c5 => have := hb1.size; omega
  intro v' w2 hown' hgrow _
  have hlt : b < w1.heap.size := by
    rcases Nat.lt_or_ge b w1.heap.size with h' | h'
    · exact h'
    · simp [Array.getElem?_eq_none h'] at hbk
  have hb2 : w2.heap[b]? = some (.cells #[.pointer (some ⟨b, 0, none⟩), v] 98 (0, 0)) := by
    rw [hgrow.block b hlt (fun e => hne e.symm)]
    exact hbk
  have d0 : w2.cell? ⟨b, 0, none⟩ = some (.pointer (some ⟨b, 0, none⟩)) := by rw [Lib.cell_of_heap hb2]; rfl
  have d1 : w2.cell? ⟨b, 1, none⟩ = some v := by rw [Lib.cell_of_heap hb2]; rfl
  have f1 : w2.frozen? ⟨b, 1, none⟩ = false := Lib.frozen_of_heap hb2 1
  obtain ⟨ao, n', cap, rfl⟩ : ∃ ao n' cap, v' = .slice ao n' cap := by
    rcases hown'.2 with ⟨hv, _⟩ | ⟨g, cap, cur, fz, hv, _⟩
    · exact ⟨_, _, _, hv⟩
    · exact ⟨_, _, _, hv⟩
  go_wp2
  go_ret2
  refine ⟨rfl, ?_, ?_, (hk1.grown hgrow (Lib.ownsRowF_kind hown)).setCell ⟨b, 1, none⟩ rfl _⟩
  · exact Lib.BuilderAtF.put (T := 98) (e := 5) hB hb2 (bs' := bs ++ Lib.strCells s) (by simpa [Lib.strCells_length] using hown') (by decide)
  · exact (hb1.grown hgrow (by have := hb1.size; omega) (fun k hk => (hown.lt k hk).1)).setCell (p := ⟨b, 1, none⟩) hB _
end Go.Proofs.Ytedknmaaaaomoaa.Hand
