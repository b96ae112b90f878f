/- What table.convertEscSequencesToSpans computes on plain text: its bytes, escaped. -/
import Derived.Test.YtbnmahbghcjbaaaGreatDoorHandSpan2
import Derived.WideLaws
namespace Go.Proofs.YtbnmahbghcjbaaaGreatDoor.Hand
open Go.Shelf Go.RowKit Go.Proofs Go.Proofs.YtbnmahbghcjbaaaGreatDoorW.PrintWords Go.Proofs.YtbnmahbghcjbaaaGreatDoor.Base
set_option linter.unusedVariables false
set_option linter.unusedSimpArgs false

def escL (l : List UInt8) : List UInt8 := l.flatMap escB
theorem escB_len (b : UInt8) : 1 ≤ (escB b).length ∧ (escB b).length ≤ 5 := by
  unfold escB
  repeat' split
  all_goals simp
theorem escL_len : ∀ l : List UInt8, l.length ≤ (escL l).length ∧ (escL l).length ≤ 5 * l.length
  | [] => by simp [escL]
  | b :: t => by
    have h1 := escB_len b
    have h2 := escL_len t
    have e : escL (b :: t) = escB b ++ escL t := rfl
    rw [e, List.length_append, List.length_cons]
    omega
theorem escL_snoc (l : List UInt8) (b : UInt8) : escL (l ++ [b]) = escL l ++ escB b := by unfold escL; rw [List.flatMap_append]; simp

/-- The rounds' memory. -/
def SpanR (w0 : World) (B C M I : Nat) (s : ByteArray) (i : Nat) (w : World) : Prop :=
  ∃ p v k, SpanAt B C p v (.map (some M)) (Lib.byteCells (escL (s.data.toList.take i))) w ∧ PtrOf C p ∧ (i = 0 → v = .slice none 0 0) ∧ w.heap[M]? = some (.map #[] k) ∧ w.heap[I]? = some (.stringIter s i) ∧ Below B w0 w ∧ B ≤ I ∧ B ≤ w.heap.size
theorem SpanAt.grown {B C I : Nat} {p v m : Value} {bs : List Value} {w w' : World} {s : ByteArray} {q : Nat} (h : SpanAt B C p v m bs w) (hI : w.heap[I]? = some (.stringIter s q)) (hg : w.grownBy w' (some I)) : SpanAt B C p v m bs w' := by
  have hCI : some C ≠ some I := by
    intro e
    obtain rfl := Option.some.inj e
    rw [h.2.1] at hI
    cases hI
  refine ⟨h.1, blk_grown h.2.1 hg hCI, h.2.2.kept hg (Or.inr ?_)⟩
  intro e
  rcases h.2.2.2 with ⟨rfl, _⟩ | ⟨g, cap, cur, fz, rfl, _, hgg, _⟩
  · simp [Value.ownBlock] at e
  · simp only [Value.ownBlock, Option.some.injEq] at e
    subst e
    rw [hgg] at hI
    cases hI
set_option maxHeartbeats 8000000 in
set_option maxRecDepth 100000 in
theorem strOf (B C : Nat) (p v m : Value) (l : List UInt8) (w : World) (h : SpanAt B C p v m (Lib.byteCells l) w) (h0 : l ≠ []) (hBw : B ≤ w.heap.size) :
    Calls Tryz.prog 18 #[.pointer (some ⟨C, 0, none⟩)] w fun e w' => e = .returned (.string ⟨l.toArray⟩) ∧ Below B w w' := by
  obtain ⟨hB, hbk, hown⟩ := h
  have hl0 : l.length ≠ 0 := by simpa using h0
  rw [Lib.byteCells_length] at hown
  obtain ⟨g, cap, cur, fz, rfl, hbg, hg, hfz, hnc, hcm, hcs, htake⟩ : ∃ g cap cur fz, v = .slice (some ⟨g, 0, none⟩) l.length cap ∧ B ≤ g ∧ w.heap[g]? = some (.cells cur 5 fz) ∧ fz.2 ≤ l.length * 1 ∧ l.length ≤ cap ∧ cap ≤ maxLen ∧ cur.size = cap * 1 ∧ cur.toList.take (l.length * 1) = Lib.byteCells l := by
    rcases hown.2 with ⟨_, hz⟩ | ⟨g, cap, cur, fz, hv, r⟩
    · exact absurd hz hl0
    · exact ⟨g, cap, cur, fz, hv, r⟩
  have c1 : w.drew.cell? ⟨C, 1, none⟩ = some (.slice (some ⟨g, 0, none⟩) l.length cap) := by
    have : w.drew.heap[C]? = some (.cells (cnv p (.slice (some ⟨g, 0, none⟩) l.length cap) m) 35 (0, 0)) := hbk
    rw [Lib.cell_of_heap this]; rfl
  have hSD : (Builtin.unsafeSliceData_ #[28] 56 #[.slice (some ⟨g, 0, none⟩) l.length cap]).run Tryz.prog w.drew = .ok (.pointer (some ⟨g, 0, none⟩)) w.drew :=
    Lib.run_unsafeSliceData_row _ _ _ _ _ _ (by omega)
  have hUS : (Builtin.unsafeString_ #[56, 3] 9 #[.pointer (some ⟨g, 0, none⟩), .int .i64 l.length]).run Tryz.prog w.drew = .ok (.string ⟨l.toArray⟩) (w.drew.freeze ⟨g, 0, none⟩ l.length) := by
    refine Lib.run_unsafeString_row w.drew 56 3 9 5 Tryz.underlying56 (by kernel_rfl) g cur.size (by have hg' : w.drew.heap[g]? = some (.cells cur 5 fz) := hg; simp [World.shape?, hg']) l h0 (by omega) (by unfold maxLen at hcm; omega) ?_
    intro j x hx
    have := hown.cells (g := g) rfl j (.int .u8 x.toNat) (by simp [Lib.byteCells, hx])
    exact this
  go_enter Tryz.func18, Tryz.ntmps18
  go_wp2
  go_region
  all_goals (go_wp2; go_ret; exact ⟨rfl, Lib.below_freeze (Below.drew (Below.refl B w)) (p := ⟨g, 0, none⟩) hbg _⟩)
set_option maxHeartbeats 8000000 in
set_option maxRecDepth 100000 in
theorem strNil (B C : Nat) (p m : Value) (w : World) (h : SpanAt B C p (.slice none 0 0) m [] w) :
    Calls Tryz.prog 18 #[.pointer (some ⟨C, 0, none⟩)] w fun e w' => e = .returned (.string ⟨#[]⟩) ∧ Below B w w' := by
  have hUS : ∀ (W : World) (q : Option Addr), (Builtin.unsafeString_ #[56, 3] 9 #[.pointer q, .int .i64 0]).run Tryz.prog W = .ok (.string .empty) W := fun W q => Lib.run_unsafeString_none W _ _ _ q
  have c1 : w.drew.cell? ⟨C, 1, none⟩ = some (.slice none 0 0) := by
    have : w.drew.heap[C]? = some (.cells (cnv p (.slice none 0 0) m) 35 (0, 0)) := h.2.1
    rw [Lib.cell_of_heap this]; rfl
  have hSD : (Builtin.unsafeSliceData_ #[28] 56 #[.slice none 0 0]).run Tryz.prog w.drew = .ok (.pointer none) w.drew := rfl
  clear h
  go_enter Tryz.func18, Tryz.ntmps18
  go_wp2
  go_region
  all_goals (go_wp2; go_ret; exact ⟨rfl, Below.drew (Below.refl B w)⟩)

def PlainS (s : ByteArray) : Prop := ∀ b ∈ s.data.toList, b.toNat < 128 ∧ b.toNat ≠ 27
set_option maxHeartbeats 8000000 in
set_option maxRecDepth 100000 in
theorem convert_plain (B C : Nat) (p v m : Value) (bs : List Value) (s : ByteArray) (hs : PlainS s) (hz : s.size ≤ 1000) (w : World) (h : SpanAt B C p v m bs w) (hBw : B ≤ w.heap.size) :
    Calls Tryz.prog 10 #[.pointer (some ⟨C, 0, none⟩), .string s] w fun e w' => e = .returned (.string ⟨(escL s.data.toList).toArray⟩) ∧ Below B w w' := by
  have R := Aside0.mk (reset B C p v m bs w h hBw)
  have HS := Aside0.mk hs
  clear h hs
  go_enter Tryz.func10, Tryz.ntmps10
  go_upto_region 2 with ((go_at_call 11; with_reducible refine R.out.mono ?_); rintro e w1 ⟨rfl, ⟨M, k, h1, hM⟩, b1⟩; have H1 := Aside0.mk h1; have HM := Aside0.mk hM; have B1 := Aside0.mk b1; clear h1 hM b1)
  clear R
  have hs1 := B1.out.size
  have HR : Aside0 (SpanR w B C M w1.heap.size s 0 (w1.iter s 0)) := ⟨⟨_, _, k, ⟨H1.out.1, blk_below H1.out.2.1 (below_alloc (Below.refl _ _) _), ⟨rfl, Or.inl ⟨rfl, rfl⟩⟩⟩, Or.inl rfl, fun _ => rfl, blk_below HM.out (below_alloc (Below.refl _ _) _), w1.iter_heap s 0, B1.out.trans ((below_alloc (Below.refl w1.heap.size w1) _).mono (by omega)), by omega, by have : (w1.iter s 0).heap.size = w1.heap.size + 1 := (by simp [World.iter]); omega⟩⟩
  clear H1 HM B1 hs1
  go_wp2
  generalize w1.heap.size = I at *
  generalize w1.iter s 0 = w2 at *
  have hn : s.size = s.data.toList.length := size_list s
  have HN := Aside0.mk hn
  clear hn
  go_loopg [] s.size (fun kq w' => ∃ i : Nat, Aside0 (i + kq = s.size) ∧ Aside0 (SpanR w B C M I s i w'))
  case atStart => exact ⟨0, ⟨by omega⟩, HR⟩
  case round =>
    clear HR
    obtain ⟨i, HI, HR⟩ := hrel
    obtain ⟨p1, v1, k1, hA, hp1, hv1, hM, hIt, hB, hBI, hBz⟩ := HR.out
    by_cases hi : i < s.size
    · obtain ⟨b, hb⟩ : ∃ b, s[i]'hi = b := ⟨_, rfl⟩
      have hil : i < s.data.toList.length := by have := HN.out; omega
      have hbm : b ∈ s.data.toList := by rw [← hb]; exact Array.getElem_mem_toList (xs := s.data) hi
      have hbl : s.data.toList[i] = b := hb
      have hb1 := (HS.out b hbm).1
      have hb27 := (HS.out b hbm).2
      have hdec : Utf8.decode s i = (b.toNat, 1) := by have := Go.decode_ascii s i hi (by rw [hb]; exact hb1); rw [hb] at this; exact this
      have hnx : ∀ ty, (Instr.next (.pointer (some ⟨I, 0, none⟩)) true ty).run Tryz.prog wr = .ok (.tuple #[.bool true, .int .i64 (i : Int), .int .i32 (b.toNat : Int)]) (wr.iterAt I s (i + 1)) := by
        intro ty
        have := Lib.run_next_any_at (P := Tryz.prog) wr I s i ty hIt hi
        rw [hdec] at this
        exact this
      have hg := It.grown_iterAt (q := i + 1) hIt
      have hA2 := hA.grown hIt hg
      have hM2 : (wr.iterAt I s (i + 1)).heap[M]? = some (.map #[] k1) := blk_grown hM hg (fun e => by obtain rfl := Option.some.inj e; rw [hM] at hIt; cases hIt)
      have hI2 := Lib.iterAt_heap wr I s i (i + 1) hIt
      have hB2 : Below B w (wr.iterAt I s (i + 1)) := hB.grown hg hBz (fun k hk => by obtain rfl := Option.some.inj hk; exact hBI)
      have hz2 : B ≤ (wr.iterAt I s (i + 1)).heap.size := Nat.le_trans hBz hg.size
      have hIC : I ≠ C := by
        intro e
        rw [e, hA.2.1] at hIt
        cases hIt
      have hMC : M ≠ C := by
        intro e
        rw [e, hA.2.1] at hM
        cases hM
      have htk : s.data.toList.take (i + 1) = s.data.toList.take i ++ [b] := by rw [List.take_succ_eq_append_getElem hil, hbl]
      have hln : (Lib.byteCells (escL (s.data.toList.take i))).length ≤ 1000000 := by
        rw [Lib.byteCells_length]
        have h1 := (escL_len (s.data.toList.take i)).2
        have h2 := List.length_take_le i s.data.toList
        omega
      have S1 := Aside0.mk (inSeq B C p1 v1 (.map (some M)) _ _ hA2)
      have S2 := Aside0.mk (consume B C p1 v1 (.map (some M)) _ (b.toNat : Int) (by omega) _ hA2)
      have S3 := Aside0.mk (escRune B C p1 v1 (.map (some M)) _ b hb1 _ hA2 hp1 hln hz2)
      have HK := Aside0.mk (And.intro hM2 (And.intro hI2 (And.intro hB2 (And.intro hIC hMC))))
      have HTK := Aside0.mk htk
      have HZ := Aside0.mk hz2
      have HBI := Aside0.mk hBI
      clear hA hp1 hv1 hM hIt hB hBI hBz hbl hb27 hdec hg hA2 hM2 hI2 hB2 hz2 hIC hMC htk hln hbm hb hil
      generalize wr.iterAt I s (i + 1) = w3 at *
      go_wp2_with (first
        | ((go_at_call 12; with_reducible refine S1.out.mono ?_); rintro e w' ⟨rfl, rfl⟩)
        | ((go_at_call 13; with_reducible refine S2.out.mono ?_); rintro e w' ⟨rfl, rfl⟩)
        | ((go_at_call 16; with_reducible refine S3.out.mono ?_); rintro e w4 ⟨rfl, ⟨v4, h4⟩, b4, k4⟩))
      go_roundg (gk - 1)
      case measure => have := HI.out; omega
      case rel =>
        obtain ⟨hM2, hI2, hB2, hIC, hMC⟩ := HK.out
        refine ⟨i + 1, ⟨by have := HI.out; omega⟩, ⟨⟨_, v4, k1, ?_, Or.inr rfl, fun e => by omega, ?_, ?_, hB2.trans (b4.mono (Nat.le_refl _)), HBI.out, Nat.le_trans HZ.out b4.size⟩⟩⟩
        · rw [HTK.out, escL_snoc]
          have : Lib.byteCells (escL (s.data.toList.take i) ++ escB b) = Lib.byteCells (escL (s.data.toList.take i)) ++ Lib.byteCells (escB b) := by simp [Lib.byteCells]
          rw [this]
          exact h4
        · exact k4 M _ hM2 (fun e => hMC (Option.some.inj e)) (fun _ _ e => by cases e)
        · exact k4.iter hI2 hIC
    · have hii : i = s.size := by have := HI.out; omega
      have hnx : ∀ ty, (Instr.next (.pointer (some ⟨I, 0, none⟩)) true ty).run Tryz.prog wr = .ok (.tuple #[.bool false]) wr := fun ty => Lib.run_next_end_at (P := Tryz.prog) wr I s i ty hIt (by omega)
      have c6 : wr.cell? ⟨C, 6, none⟩ = some (.map (some M)) := by rw [hA.cell]; rfl
      have hlen : (Builtin.len_ #[26] 3 #[.map (some M)]).run Tryz.prog wr = .ok (.int .i64 0) wr := Go.run_len_map wr 26 3 M #[] k1 (by kernel_rfl) hM
      have htk : s.data.toList.take i = s.data.toList := by rw [hii, HN.out, List.take_length]
      rw [htk] at hA
      by_cases h0 : s.data.toList = []
      · have hv : v1 = .slice none 0 0 := hv1 (by rw [hii, HN.out, h0]; rfl)
        subst hv
        rw [h0] at hA
        have K := Aside0.mk (strNil B C p1 (.map (some M)) wr hA)
        have HB2 := Aside0.mk hB
        have HZ := Aside0.mk hBz
        have HE : Aside0 (escL s.data.toList = []) := ⟨by rw [h0]; rfl⟩
        clear hA hv1 hp1 hIt hB hBI hBz htk h0 hii
        go_wp2_with ((go_at_call 18; with_reducible refine K.out.mono ?_); rintro e w4 ⟨rfl, b4⟩)
        go_ret
        exact ⟨congrArg (fun x : List UInt8 => Ending.returned (.string ⟨x.toArray⟩)) HE.out.symm, HB2.out.trans b4⟩
      · have K := Aside0.mk (strOf B C p1 v1 (.map (some M)) (escL s.data.toList) wr hA (by
          intro e
          have := (escL_len s.data.toList).1
          rw [e] at this
          exact h0 (List.length_eq_zero_iff.1 (Nat.le_zero.1 this))) hBz)
        have HB2 := Aside0.mk hB
        have HZ := Aside0.mk hBz
        clear hA hv1 hp1 hIt hB hBI hBz htk h0 hii
        go_wp2_with ((go_at_call 18; with_reducible refine K.out.mono ?_); rintro e w4 ⟨rfl, b4⟩)
        go_ret
        exact ⟨rfl, HB2.out.trans b4⟩

def plainB (s : ByteArray) : Bool := s.data.toList.all fun b => decide (b.toNat < 128) && decide (b.toNat ≠ 27)
theorem plainB_iff {s : ByteArray} (h : plainB s = true) : PlainS s := fun b hb => by
  have := List.all_eq_true.1 h b hb
  simpa using this
set_option maxHeartbeats 8000000 in
set_option maxRecDepth 100000 in
theorem newConv (w : World) : Calls Tryz.prog 9 #[] w fun e w' => (∃ C M, e = .returned (.pointer (some ⟨C, 0, none⟩)) ∧ SpanAt w.heap.size C (.pointer none) (.slice none 0 0) (.map (some M)) [] w') ∧ Below w.heap.size w w' := by
  have hmm : (Instr.makeMap 26 none).run Tryz.prog w = .ok (.map (some w.heap.size)) (w.alloc (.map #[] 0)) := run_makeMap _ _
  have b1 : Below w.heap.size w (w.alloc (.map #[] 0)) := (Below.refl _ _).alloc (Nat.le_refl _) _
  have hz : (w.alloc (.map #[] 0)).heap.size = w.heap.size + 1 := by simp
  go_enter Tryz.func9, Tryz.ntmps9
  go_upto_region 1 with (fail)
  generalize (w.alloc (.map #[] 0)) = w1 at *
  have HZ := Aside0.mk hz
  clear hz
  go_wp2
  go_ret
  refine ⟨⟨w1.heap.size, w.heap.size, rfl, by have := HZ.out; omega, blk_new w1 _, ⟨rfl, Or.inl ⟨rfl, rfl⟩⟩⟩, b1.alloc (by have := HZ.out; omega) _⟩
def impl_Spans.f (a0 : ByteArray) : Option ByteArray := if a0.size ≤ 1000 ∧ plainB a0 = true then some ⟨(escL a0.data.toList).toArray⟩ else none
set_option maxHeartbeats 8000000 in
set_option maxRecDepth 100000 in
theorem spans_plain (s : ByteArray) (hs : PlainS s) (hz : s.size ≤ 1000) (w : World) :
    Calls Tryz.prog 8 #[.string s] w fun e w' => e = .returned (.string ⟨(escL s.data.toList).toArray⟩) ∧ Below w.heap.size w w' := by
  have HS := Aside0.mk hs
  have HN := Aside0.mk (newConv w)
  clear hs
  go_enter Tryz.func8, Tryz.ntmps8
  go_wp2_with (first
    | ((go_at_call 9; with_reducible refine HN.out.mono ?_); rintro e w1 ⟨⟨C, M, rfl, h1⟩, b1⟩; have K := Aside0.mk (convert_plain w.heap.size C _ _ _ _ s HS.out hz w1 h1 b1.size); have B1 := Aside0.mk b1; clear h1 b1)
    | ((go_at_call 10; with_reducible refine K.out.mono ?_); rintro e w2 ⟨rfl, b2⟩))
  go_ret
  exact ⟨rfl, B1.out.trans b2⟩
set_option maxHeartbeats 8000000 in
set_option maxRecDepth 100000 in
theorem impl_Spans.calls (a0 : ByteArray) (r : ByteArray) (w : World) (h : impl_Spans.f a0 = some r) :
    Calls Tryz.prog 5 #[.string a0] w fun e w' => e = .returned (.string r) ∧ Below w.heap.size w w' := by
  unfold impl_Spans.f at h
  split at h
  case isFalse => cases h
  rename_i hc
  obtain rfl := Option.some.inj h
  have K := Aside0.mk (spans_plain a0 (plainB_iff hc.2) hc.1 w)
  have Z : Aside0 (Calls Tryz.prog 7 #[.string a0] w fun e w' => e = .returned (.string ⟨(escL a0.data.toList).toArray⟩) ∧ Below w.heap.size w w') := ⟨by
    clear hc h
    go_enter Tryz.func7, Tryz.ntmps7
    go_wp2_with ((go_at_call 8; with_reducible refine K.out.mono ?_); rintro e w2 ⟨rfl, b2⟩)
    go_ret
    exact ⟨rfl, b2⟩⟩
  clear hc h K
  go_enter Tryz.func5, Tryz.ntmps5
  go_wp2_with ((go_at_call 7; with_reducible refine Z.out.mono ?_); rintro e w2 ⟨rfl, b2⟩)
  go_ret
  exact ⟨rfl, b2⟩
end Go.Proofs.YtbnmahbghcjbaaaGreatDoor.Hand
