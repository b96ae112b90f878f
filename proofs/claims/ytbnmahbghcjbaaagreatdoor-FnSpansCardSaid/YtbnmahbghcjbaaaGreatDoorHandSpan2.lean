/- What table.convertEscSequencesToSpans computes on plain text: its bytes, escaped. -/
import Derived.Test.YtbnmahbghcjbaaaGreatDoorHandSpan
import Derived.Deep.LoopGhost
import Derived.Deep.DeepCutAuto
import Derived.Deep.CutBlock
namespace Go.Proofs.YtbnmahbghcjbaaaGreatDoor.Hand
open Go.Shelf Go.RowKit Go.Proofs Go.Proofs.YtbnmahbghcjbaaaGreatDoorW.PrintWords Go.Proofs.YtbnmahbghcjbaaaGreatDoor.Base
set_option linter.unusedVariables false
set_option linter.unusedSimpArgs false

set_option maxHeartbeats 4000000 in
set_option maxRecDepth 100000 in
theorem bReset (B C : Nat) (p v m : Value) (bs : List Value) (w : World) (h : SpanAt B C p v m bs w) :
    Calls Tryz.prog 19 #[.pointer (some ⟨C, 0, none⟩)] w fun e w' => e = .returned (.tuple #[]) ∧ SpanAt B C (.pointer none) (.slice none 0 0) m [] w' ∧ Below B w w' := by
  have c0 : w.cell? ⟨C, 0, none⟩ = some p := by rw [h.cell]; rfl
  have c1 : w.cell? ⟨C, 1, none⟩ = some v := by rw [h.cell]; rfl
  have f0 := h.frozen 0
  have f1 := h.frozen 1
  have H := Aside0.mk h
  clear h
  go_enter Tryz.func19, Tryz.ntmps19
  go_wp2
  go_end0
  refine ⟨rfl, ⟨H.out.1, ?_, ?_⟩, ((Below.refl B w).setCell (p := ⟨C, 0, none⟩) H.out.1 _).setCell (p := ⟨C, 1, none⟩) H.out.1 _⟩
  · exact blk_put (blk_put H.out.2.1 0 _ rfl) 1 _ rfl
  · exact ⟨rfl, Or.inl ⟨rfl, rfl⟩⟩
set_option maxHeartbeats 4000000 in
set_option maxRecDepth 100000 in
theorem inSeq (B C : Nat) (p v m : Value) (bs : List Value) (w : World) (h : SpanAt B C p v m bs w) :
    Calls Tryz.prog 12 #[.pointer (some ⟨C, 2, none⟩)] w fun e w' => e = .returned (.bool false) ∧ w = w' := by
  have c3 : w.cell? ⟨C, 3, none⟩ = some (.bool false) := by rw [h.cell]; rfl
  clear h
  go_enter Tryz.func12, Tryz.ntmps12
  go_wp2
  go_ret
  exact ⟨rfl, rfl⟩
set_option maxHeartbeats 8000000 in
set_option maxRecDepth 100000 in
theorem consume (B C : Nat) (p v m : Value) (bs : List Value) (r : Int) (hr : r ≠ 27) (w : World) (h : SpanAt B C p v m bs w) :
    Calls Tryz.prog 13 #[.pointer (some ⟨C, 2, none⟩), .int .i32 r] w fun e w' => e = .returned (.tuple #[]) ∧ w = w' := by
  have c3 : w.cell? ⟨C, 3, none⟩ = some (.bool false) := by rw [h.cell]; rfl
  have e27 : (r == 27) = false := beq_eq_false_iff_ne.mpr hr
  clear h hr
  go_enter Tryz.func13, Tryz.ntmps13
  go_wp2
  go_end0
  exact ⟨rfl, rfl⟩
set_option maxHeartbeats 8000000 in
set_option maxRecDepth 100000 in
theorem reset (B C : Nat) (p v m : Value) (bs : List Value) (w : World) (h : SpanAt B C p v m bs w) (hBw : B ≤ w.heap.size) :
    Calls Tryz.prog 11 #[.pointer (some ⟨C, 0, none⟩)] w fun e w' => e = .returned (.tuple #[]) ∧ (∃ M k, SpanAt B C (.pointer none) (.slice none 0 0) (.map (some M)) [] w' ∧ w'.heap[M]? = some (.map #[] k)) ∧ Below B w w' := by
  have R := Aside0.mk (bReset B C p v m bs w h)
  clear h
  go_enter Tryz.func11, Tryz.ntmps11
  go_upto_region 2 with ((go_at_call 19; with_reducible refine R.out.mono ?_); rintro e w1 ⟨rfl, h1, b1⟩; have H1 := Aside0.mk h1; have B1 := Aside0.mk b1; have c2 : w1.cell? ⟨C, 2, none⟩ = some (.map none) := (by rw [h1.cell]; rfl); have c3 : w1.cell? ⟨C, 3, none⟩ = some (.bool false) := (by rw [h1.cell]; rfl); have c4 : w1.cell? ⟨C, 4, none⟩ = some (.int .i64 0) := (by rw [h1.cell]; rfl); have c5 : w1.cell? ⟨C, 5, none⟩ = some (.slice none 0 0) := (by rw [h1.cell]; rfl); have c6 : w1.cell? ⟨C, 6, none⟩ = some m := (by rw [h1.cell]; rfl); have f2 := h1.frozen 2; have f3 := h1.frozen 3; have f4 := h1.frozen 4; have f5 := h1.frozen 5; have f6 := h1.frozen 6; clear h1 b1)
  have g5 := blk_put (blk_put (blk_put (blk_put H1.out.2.1 2 (.map none) rfl) 3 (.bool false) rfl) 4 (.int .i64 0) rfl) 5 (.slice none 0 0) rfl
  have b5 := (((B1.out.setCell (p := ⟨C, 2, none⟩) H1.out.1 (.map none)).setCell (p := ⟨C, 3, none⟩) H1.out.1 (.bool false)).setCell (p := ⟨C, 4, none⟩) H1.out.1 (.int .i64 0)).setCell (p := ⟨C, 5, none⟩) H1.out.1 (.slice none 0 0)
  clear c2 c3 c4 c5 c6 f2 f3 f4 f5 f6
  change Code.wp _ _ _ _ ((((w1.setCell ⟨C, 2, none⟩ (.map none)).setCell ⟨C, 3, none⟩ (.bool false)).setCell ⟨C, 4, none⟩ (.int .i64 0)).setCell ⟨C, 5, none⟩ (.slice none 0 0))
  generalize ((((w1.setCell ⟨C, 2, none⟩ (.map none)).setCell ⟨C, 3, none⟩ (.bool false)).setCell ⟨C, 4, none⟩ (.int .i64 0)).setCell ⟨C, 5, none⟩ (.slice none 0 0)) = w5 at g5 b5 ⊢
  have hmm : (Instr.makeMap 26 none).run Tryz.prog w5 = .ok (.map (some w5.heap.size)) (w5.alloc (.map #[] 0)) := run_makeMap _ _
  have g6 := blk_alloc g5 (.map #[] 0)
  have n6 := blk_new w5 (.map #[] 0)
  have c6 : (w5.alloc (.map #[] 0)).cell? ⟨C, 6, none⟩ = some m := by rw [Lib.cell_of_heap g6]; rfl
  have f6 : (w5.alloc (.map #[] 0)).frozen? ⟨C, 6, none⟩ = false := Lib.frozen_of_heap g6 6
  have hs := b5.size
  have hlt := blk_lt g5
  have hBC := H1.out.1
  have G6 := Aside0.mk g6
  have N6 := Aside0.mk n6
  have B6 := Aside0.mk (b5.alloc (by omega) (.map #[] 0))
  have hzC : w5.heap.size ≠ C := by omega
  clear g5 n6 b5 g6 H1 B1 R hs hlt
  generalize w5.alloc (.map #[] 0) = w6 at *
  generalize w5.heap.size = z at *
  go_wp2
  go_end0
  exact ⟨rfl, ⟨z, 0, ⟨hBC, blk_put G6.out 6 _ rfl, ⟨rfl, Or.inl ⟨rfl, rfl⟩⟩⟩, (Below.heap_setCell _ _ _ _ hzC).trans N6.out⟩, B6.out.setCell (p := ⟨C, 6, none⟩) hBC _⟩

/-- A byte, escaped. -/
def escB (b : UInt8) : List UInt8 := if b = 60 then [38, 108, 116, 59] else if b = 62 then [38, 103, 116, 59] else if b = 38 then [38, 97, 109, 112, 59] else if b = 34 then [38, 35, 51, 52, 59] else if b = 39 then [38, 35, 51, 57, 59] else [b]
theorem eq_true_of {b : UInt8} (k : Nat) (hk : k < 256) (h : b = UInt8.ofNat k) : ((b.toNat : Int) == (k : Int)) = true := by
  subst h
  simp
  omega
theorem eq_false_of {b : UInt8} (k : Nat) (hk : k < 256) (h : b ≠ UInt8.ofNat k) : ((b.toNat : Int) == (k : Int)) = false := by
  refine beq_eq_false_iff_ne.mpr (fun e => h (UInt8.toNat_inj.1 ?_))
  simp
  omega
set_option maxHeartbeats 8000000 in
set_option maxRecDepth 100000 in
theorem escRune (B C : Nat) (p v m : Value) (bs : List Value) (b : UInt8) (hb : b.toNat < 128) (w : World) (h : SpanAt B C p v m bs w) (hp : PtrOf C p) (hlen : bs.length ≤ 1000000) (hBw : B ≤ w.heap.size) :
    Calls Tryz.prog 16 #[.pointer (some ⟨C, 0, none⟩), .int .i32 (b.toNat : Int)] w fun e w' => e = .returned (.tuple #[]) ∧ ((∃ v', SpanAt B C (.pointer (some ⟨C, 0, none⟩)) v' m (bs ++ Lib.byteCells (escB b)) w') ∧ Below B w w' ∧ Lib.OthersKept 5 (some C) w w') := by
  have W1 : Aside0 (∀ s : ByteArray, s.size ≤ 10 → Calls Tryz.prog 17 #[.pointer (some ⟨C, 0, none⟩), .string s] w fun e w' => e = .returned (.tuple #[.int .i64 s.size, .nilIface]) ∧ ((∃ v', SpanAt B C (.pointer (some ⟨C, 0, none⟩)) v' m (bs ++ Lib.strCells s) w') ∧ Below B w w' ∧ Lib.OthersKept 5 (some C) w w')) := ⟨fun s hs => writeString B C p v m bs s w h hp (by omega) hBw⟩
  have W2 := Aside0.mk (writeRune B C p v m bs (b.toNat : Int) (by omega) (by omega) w h hp (by omega) hBw)
  have c1 : w.cell? ⟨C, 1, none⟩ = some v := by rw [h.cell]; rfl
  clear h hp hlen hBw
  by_cases h1 : b = 60
  · have e1 := eq_true_of 60 (by decide) h1
    have K := W1.out ⟨#[38, 108, 116, 59]⟩ (by decide)
    rw [show Lib.strCells ⟨#[38, 108, 116, 59]⟩ = Lib.byteCells (escB b) by rw [h1]; rfl] at K
    have K := Aside0.mk K
    clear h1
    go_enter Tryz.func16, Tryz.ntmps16
    go_wp2_with ((go_at_call 17; with_reducible refine K.out.mono ?_); rintro e w1 ⟨rfl, h1⟩)
    go_end0
    exact ⟨rfl, h1⟩
  have e1 := eq_false_of 60 (by decide) h1
  by_cases h2 : b = 62
  · have e2 := eq_true_of 62 (by decide) h2
    have K := W1.out ⟨#[38, 103, 116, 59]⟩ (by decide)
    rw [show Lib.strCells ⟨#[38, 103, 116, 59]⟩ = Lib.byteCells (escB b) by rw [h2]; rfl] at K
    have K := Aside0.mk K
    clear h1 h2
    go_enter Tryz.func16, Tryz.ntmps16
    go_wp2_with ((go_at_call 17; with_reducible refine K.out.mono ?_); rintro e w1 ⟨rfl, h1⟩)
    go_end0
    exact ⟨rfl, h1⟩
  have e2 := eq_false_of 62 (by decide) h2
  by_cases h3 : b = 38
  · have e3 := eq_true_of 38 (by decide) h3
    have K := W1.out ⟨#[38, 97, 109, 112, 59]⟩ (by decide)
    rw [show Lib.strCells ⟨#[38, 97, 109, 112, 59]⟩ = Lib.byteCells (escB b) by rw [h3]; rfl] at K
    have K := Aside0.mk K
    clear h1 h2 h3
    go_enter Tryz.func16, Tryz.ntmps16
    go_wp2_with ((go_at_call 17; with_reducible refine K.out.mono ?_); rintro e w1 ⟨rfl, h1⟩)
    go_end0
    exact ⟨rfl, h1⟩
  have e3 := eq_false_of 38 (by decide) h3
  by_cases h4 : b = 34
  · have e4 := eq_true_of 34 (by decide) h4
    have K := W1.out ⟨#[38, 35, 51, 52, 59]⟩ (by decide)
    rw [show Lib.strCells ⟨#[38, 35, 51, 52, 59]⟩ = Lib.byteCells (escB b) by rw [h4]; rfl] at K
    have K := Aside0.mk K
    clear h1 h2 h3 h4
    go_enter Tryz.func16, Tryz.ntmps16
    go_wp2_with ((go_at_call 17; with_reducible refine K.out.mono ?_); rintro e w1 ⟨rfl, h1⟩)
    go_end0
    exact ⟨rfl, h1⟩
  have e4 := eq_false_of 34 (by decide) h4
  by_cases h5 : b = 39
  · have e5 := eq_true_of 39 (by decide) h5
    have K := W1.out ⟨#[38, 35, 51, 57, 59]⟩ (by decide)
    rw [show Lib.strCells ⟨#[38, 35, 51, 57, 59]⟩ = Lib.byteCells (escB b) by rw [h5]; rfl] at K
    have K := Aside0.mk K
    clear h1 h2 h3 h4 h5
    go_enter Tryz.func16, Tryz.ntmps16
    go_wp2_with ((go_at_call 17; with_reducible refine K.out.mono ?_); rintro e w1 ⟨rfl, h1⟩)
    go_end0
    exact ⟨rfl, h1⟩
  have e5 := eq_false_of 39 (by decide) h5
  have he : escB b = [b] := by unfold escB; rw [if_neg h1, if_neg h2, if_neg h3, if_neg h4, if_neg h5]
  have K := W2.out
  rw [show [Value.int .u8 (b.toNat : Int)] = Lib.byteCells (escB b) by rw [he]; rfl] at K
  have K := Aside0.mk K
  clear h1 h2 h3 h4 h5 he
  go_enter Tryz.func16, Tryz.ntmps16
  go_wp2_with ((go_at_call 31; with_reducible refine K.out.mono ?_); rintro e w1 ⟨⟨x, rfl⟩, h1⟩)
  go_end0
  exact ⟨rfl, h1⟩
end Go.Proofs.YtbnmahbghcjbaaaGreatDoor.Hand
