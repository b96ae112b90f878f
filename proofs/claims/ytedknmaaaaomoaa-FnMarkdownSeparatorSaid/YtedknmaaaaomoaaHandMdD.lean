/- The line below the header in Markdown, rendered. -/
import Derived.Test.YtedknmaaaaomoaaHandMdC
import Derived.Deep.Cut
namespace Go.Proofs.Ytedknmaaaaomoaa.Hand
open Go.RowKit Go.Proofs.YtedknmaaaaomoaaW.PrintWords Go.Proofs.YtedknmaaaaomoaaW.PrintMore Go.Proofs.Ytedknmaaaaomoaa.Base
set_option linter.unusedVariables false
set_option linter.unusedSimpArgs false

/-- A table below block b, as the separator's rendering reads it. -/
structure Sep (b T S M NN G gc : Nat) (idx pad : Bool) (width : Nat) (ws : List Int) (cs : List (Int × Int)) (w : World) : Prop where
  hT : T < b
  hS : S < b
  hM : M < b
  hN : NN < b
  hG : G < b
  t1 : w.cell? ⟨T, 1, none⟩ = some (.bool idx)
  t2 : w.cell? ⟨T, 2, none⟩ = some (.int .i64 (width : Int))
  t4 : w.cell? ⟨T, 4, none⟩ = some (.slice (some ⟨NN, 0, none⟩) ws.length ws.length)
  t6 : w.cell? ⟨T, 6, none⟩ = some (.map (some M))
  t11 : w.cell? ⟨T, 11, none⟩ = some (.slice (some ⟨G, 0, none⟩) ws.length gc)
  t14 : w.cell? ⟨T, 14, none⟩ = some (.int .i64 (ws.length : Int))
  t39 : w.cell? ⟨T, 39, none⟩ = some (.pointer (some ⟨S, 0, none⟩))
  s36 : w.cell? ⟨S, 36, none⟩ = some (.int .i64 0)
  s43 : w.cell? ⟨S, 43, none⟩ = some (.bool pad)
  nn : ∀ j < ws.length, w.cell? ⟨NN, j, none⟩ = some (.bool true)
  g : ∀ (j : Nat) (x : Int), ws[j]? = some x → w.cell? ⟨G, j, none⟩ = some (.int .i64 x)
  m : CfgMap w M cs
theorem Sep.below {b T S M NN G gc : Nat} {idx pad : Bool} {width : Nat} {ws : List Int} {cs : List (Int × Int)} {w w' : World} (h : Sep b T S M NN G gc idx pad width ws cs w) (hb : Below b w w') : Sep b T S M NN G gc idx pad width ws cs w' where
  hT := h.hT
  hS := h.hS
  hM := h.hM
  hN := h.hN
  hG := h.hG
  t1 := (hb.cell h.hT).trans h.t1
  t2 := (hb.cell h.hT).trans h.t2
  t4 := (hb.cell h.hT).trans h.t4
  t6 := (hb.cell h.hT).trans h.t6
  t11 := (hb.cell h.hT).trans h.t11
  t14 := (hb.cell h.hT).trans h.t14
  t39 := (hb.cell h.hT).trans h.t39
  s36 := (hb.cell h.hS).trans h.s36
  s43 := (hb.cell h.hS).trans h.s43
  nn := fun j hj => (hb.cell h.hN).trans (h.nn j hj)
  g := fun j x hx => (hb.cell h.hG).trans (h.g j x hx)
  m := h.m.kept (hb.block M h.hM)
theorem hint_q {w : World} {h : Nat} (hh : w.heap[h]? = some (.cells hintS 102 (0, 0))) : w.cell? ⟨h, 0, none⟩ = some (.bool false) ∧ w.cell? ⟨h, 1, none⟩ = some (.bool false) ∧ w.cell? ⟨h, 2, none⟩ = some (.bool false) ∧ w.cell? ⟨h, 3, none⟩ = some (.bool false) ∧ w.cell? ⟨h, 4, none⟩ = some (.bool false) ∧ w.cell? ⟨h, 5, none⟩ = some (.bool false) ∧ w.cell? ⟨h, 6, none⟩ = some (.bool false) ∧ w.cell? ⟨h, 7, none⟩ = some (.bool false) ∧ w.cell? ⟨h, 8, none⟩ = some (.bool false) ∧ w.cell? ⟨h, 9, none⟩ = some (.bool true) ∧ w.cell? ⟨h, 10, none⟩ = some (.bool false) ∧ w.cell? ⟨h, 11, none⟩ = some (.int .i64 0) ∧ w.cell? ⟨h, 12, none⟩ = some (.int .i64 0) ∧ w.cell? ⟨h, 13, none⟩ = some (.int .i64 0) :=
  ⟨by rw [blk_cell hh]; rfl, by rw [blk_cell hh]; rfl, by rw [blk_cell hh]; rfl, by rw [blk_cell hh]; rfl, by rw [blk_cell hh]; rfl, by rw [blk_cell hh]; rfl, by rw [blk_cell hh]; rfl, by rw [blk_cell hh]; rfl, by rw [blk_cell hh]; rfl, by rw [blk_cell hh]; rfl, by rw [blk_cell hh]; rfl, by rw [blk_cell hh]; rfl, by rw [blk_cell hh]; rfl, by rw [blk_cell hh]; rfl⟩

theorem C_new1 (w : World) (n : Nat) : Kd.C (Kd.int .i64) (w.alloc (.cells #[.int .i64 (n : Int)] 3)) (some ⟨w.heap.size, 0, none⟩) 1 [(n : Int)] := by
  refine ⟨rfl, by omega, fun _ => ⟨_, rfl, fun j p hj => ⟨[.int .i64 p], rfl, rfl, fun i u hu => ?_⟩⟩⟩
  have hj0 : j = 0 := by
    rcases Nat.lt_or_ge j 1 with h | h
    · omega
    · rw [List.getElem?_eq_none (by simpa using h)] at hj; cases hj
  have hi0 : i = 0 := by
    rcases Nat.lt_or_ge i 1 with h | h
    · omega
    · rw [List.getElem?_eq_none (by simpa using h)] at hu; cases hu
  subst hj0 hi0
  simp at hj hu
  subst hj hu
  show (w.alloc _).cell? ⟨w.heap.size, 0, none⟩ = _
  rw [blk_cell (blk_new w (.cells #[.int .i64 (n : Int)] 3))]
  rfl
def alAt (cs : List (Int × Int)) (i : Nat) : Int := (cs.getD i (0, 0)).1
/-- What stands in a column. -/
def colT (idx pad : Bool) (width : Nat) (ws : List Int) (cs : List (Int × Int)) (i : Nat) : List UInt8 :=
  idxT idx pad width i ++ (mdB (alAt cs i) (if pad = true then (ws.getD i 0).toNat else 0)).data.toList ++ [124]
def colsT (idx pad : Bool) (width : Nat) (ws : List Int) (cs : List (Int × Int)) : Nat → List UInt8
  | 0 => [124]
  | i + 1 => colsT idx pad width ws cs i ++ colT idx pad width ws cs i
theorem colT_len (idx pad : Bool) (width : Nat) (ws : List Int) (cs : List (Int × Int)) (i : Nat) (h : width ≤ 1000000) (hw : ∀ x ∈ ws, 0 ≤ x ∧ x ≤ 1000000) : (colT idx pad width ws cs i).length ≤ 3000000 := by
  have h1 := idxT_len idx pad width i h
  have hn : (if pad = true then (ws.getD i 0).toNat else 0) ≤ 1000000 := by
    split
    · rcases Nat.lt_or_ge i ws.length with hi | hi
      · have : ws.getD i 0 = ws[i] := by simp [List.getD, hi]
        rw [this]
        have := hw _ (List.getElem_mem hi)
        omega
      · simp [List.getD, List.getElem?_eq_none hi]
    · omega
  have h2 := mdB_size (alAt cs i) _ hn
  rw [size_list] at h2
  unfold colT
  simp only [List.length_append, List.length_cons, List.length_nil]
  omega
theorem colsT_len (idx pad : Bool) (width : Nat) (ws : List Int) (cs : List (Int × Int)) (h : width ≤ 1000000) (hw : ∀ x ∈ ws, 0 ≤ x ∧ x ≤ 1000000) : ∀ i, (colsT idx pad width ws cs i).length ≤ 1 + 3000000 * i
  | 0 => by simp [colsT]
  | i + 1 => by
    have h1 := colsT_len idx pad width ws cs h hw i
    have h2 := colT_len idx pad width ws cs i h hw
    unfold colsT
    simp only [List.length_append]
    omega

set_option maxHeartbeats 8000000 in
set_option maxRecDepth 100000 in
theorem renderSep (b T S M NN G gc : Nat) (idx pad : Bool) (width : Nat) (ws : List Int) (cs : List (Int × Int)) (w : World) (hP : Sep b T S M NN G gc idx pad width ws cs w) (hI : IsB b [] w) (hb : b < w.heap.size) (hwd : width ≤ 1000000) (hn : ws.length ≤ 1000) (hcs : cs.length = ws.length) (hw : ∀ x ∈ ws, 0 ≤ x ∧ x ≤ 1000000) :
    Calls Try.prog 22 #[.pointer (some ⟨T, 0, none⟩), .pointer (some ⟨b, 0, none⟩), .agg hintS] w fun e w' => e = .returned (.tuple #[]) ∧ IsB b (colsT idx pad width ws cs ws.length) w' ∧ Below b w w' := by
  have B1 := Aside0.mk (below_alloc (Below.refl w.heap.size w) (.cells hintS 102))
  have X1 := Aside0.mk (blk_new w (.cells hintS 102))
  have I1 := Aside0.mk (hI.keep B1.out)
  have BB := Aside0.mk (B1.out.mono (Nat.le_of_lt hb))
  have hb1 : b < (w.alloc (.cells hintS 102)).heap.size := Nat.lt_of_lt_of_le hb B1.out.size
  have HP := Aside0.mk hP
  have HCS := Aside0.mk hcs
  have HW := Aside0.mk hw
  have hXb : b < w.heap.size := hb
  clear hI hP hcs hw
  show Calls Try.prog 22 #[.pointer (some ⟨T, 0, none⟩), .pointer (some ⟨b, 0, none⟩), .agg #[.bool false, .bool false, .bool false, .bool false, .bool false, .bool false, .bool false, .bool false, .bool false, .bool true, .bool false, .int .i64 0, .int .i64 0, .int .i64 0]] w _
  go_enter Try.func22, Try.ntmps22
  go_upto_region 1 with (fail)
  change Code.wp _ _ _ _ (w.alloc (.cells hintS 102))
  generalize (w.alloc (.cells hintS 102)) = w1 at B1 X1 I1 BB hb1 ⊢
  obtain ⟨X, hX⟩ : ∃ X, w.heap.size = X := ⟨_, rfl⟩
  rw [hX] at X1 hXb ⊢
  clear B1 hX hb
  go_upto_region 4 with (first
    | (go_at_call 29; refine (Try.Builder_Len_f b b _ w1 I1.out).mono ?_; rintro e w2 ⟨rfl, rfl⟩)
    | (go_at_call 30; with_reducible refine (wRune b _ 124 (by omega) (by omega) _ I1.out (by simp) (Nat.le_of_lt hb1)).mono ?_; rintro e w3 ⟨rfl, i3, b3, k3⟩; have I3 := Aside0.mk i3; have B3 := Aside0.mk (BB.out.trans b3); have hb3 := Nat.lt_of_lt_of_le hb1 b3.size; have X3 := Aside0.mk (ok_blk k3 X1.out (Nat.ne_of_gt hXb) (by decide)); clear i3 b3 k3))
  clear I1 X1 BB hb1
  go_wp2
  go_loopg [6] ws.length (fun kq v6 w' => ∃ (i : Nat), v6 = .int .i64 (i : Int) ∧ Aside0 (i + kq = ws.length) ∧ Aside0 (IsB b (colsT idx pad width ws cs i) w') ∧ Aside0 (w'.heap[X]? = some (.cells hintS 102 (0, 0))) ∧ Aside0 (Below b w w') ∧ Aside0 (b < w'.heap.size))
  case atStart => exact ⟨0, rfl, ⟨by omega⟩, I3, X3, B3, ⟨hb3⟩⟩
  case round =>
    clear I3 X3 B3 hb3
    obtain ⟨i, rfl, HK, II, XX, B0, HB⟩ := hrel
    have P0 := Aside0.mk (HP.out.below B0.out)
    have c14 := P0.out.t14
    by_cases hi : i < ws.length
    · have p1 : decide ((i : Int) < (ws.length : Int)) = true := decide_eq_true (by omega)
      obtain ⟨x, hx⟩ : ∃ x, ws[i]? = some x := ⟨ws[i], List.getElem?_eq_getElem hi⟩
      obtain ⟨c, hc⟩ : ∃ c, cs[i]? = some c := ⟨cs[i]'(by rw [HCS.out]; exact hi), List.getElem?_eq_getElem _⟩
      have hxb : 0 ≤ x ∧ x ≤ 1000000 := HW.out x (List.mem_of_getElem? hx)
      have HXI := Aside0.mk hx
      have HCI := Aside0.mk hc
      have hlen := colsT_len idx pad width ws cs hwd HW.out i
      have hlen2 := idxT_len idx pad width i hwd
      have HLEN : Aside0 ((colsT idx pad width ws cs i).length ≤ 4000000000 ∧ (idxT idx pad width i).length ≤ 1000010) := ⟨by omega, hlen2⟩
      clear hx hc hlen hlen2
      obtain ⟨q0, q1, q2, q3, q4, q5, q6, q7, q8, q9, q10, q11, q12, q13⟩ := hint_q XX.out
      go_upto_region 9 with (first
        | (go_at_call 31; refine (autoIdx b T S idx pad width i _ wr P0.out.t1 P0.out.t2 P0.out.t39 P0.out.s43 P0.out.hT P0.out.hS II.out HB.out hwd (by have := HLEN.out; omega)).mono ?_; rintro e w2 ⟨rfl, i2, b2, k2⟩; have I2 := Aside0.mk i2; have B2 := Aside0.mk (B0.out.trans b2); have hb2 := Nat.lt_of_lt_of_le HB.out b2.size; have X2 := Aside0.mk (ok_blk k2 XX.out (Nat.ne_of_gt hXb) (by decide)); have P2 := Aside0.mk (P0.out.below b2); obtain ⟨y0, y1, y2, y3, y4, y5, y6, y7, y8, y9, y10, y11, y12, y13⟩ := hint_q X2.out; clear i2 b2 k2)
        | (go_at_call 32; refine (getAlign w2 T S M NN ws.length cs P2.out.t4 P2.out.t6 P2.out.t39 P2.out.s36 P2.out.m (by rw [HCS.out]; omega) i hi (P2.out.nn i hi) c HCI.out).mono ?_; rintro e w3 ⟨rfl, b3⟩; have I3 := Aside0.mk (I2.out.keep b3); have B3 := Aside0.mk (B2.out.trans (b3.mono (Nat.le_of_lt hb2))); have hb3 := Nat.lt_of_lt_of_le hb2 b3.size; have X3 := Aside0.mk (blk_below X2.out b3); have P3 := Aside0.mk (P2.out.below (b3.mono (Nat.le_of_lt hb2))); clear b3))
      have t39 := P3.out.t39
      have s43 := P3.out.s43
      obtain ⟨n, rfl⟩ := Int.eq_ofNat_of_zero_le hxb.1
      clear q0 q1 q2 q3 q4 q5 q6 q7 q8 q9 q10 q11 q12 q13 y0 y1 y2 y3 y4 y5 y6 y7 y8 y9 y10 y11 y12 y13 P0 P2 X2 I2 B2 hb2 c14
      have hn6 : n ≤ 1000000 := by omega
      cases pad with
      | true =>
        have HMS := Aside0.mk (mdB_size c.1 n hn6)
        have t11 := P3.out.t11
        have gI := P3.out.g i _ HXI.out
        have p2 : (i : Int) < (ws.length : Int) := by omega
        have HBX := Aside0.mk (below_alloc (Below.refl w3.heap.size w3) (.cells #[.int .i64 (n : Int)] 3))
        go_wp2_with (first
          | (go_at_call 16; refine (mdProp1 c.1 n hn6 (some ⟨w3.heap.size, 0, none⟩) _ (C_new1 w3 n)).mono ?_; rintro e w4 ⟨rfl, b4⟩; have I4 := Aside0.mk ((I3.out.keep HBX.out).keep b4); have B4 := Aside0.mk ((B3.out.trans (HBX.out.mono (Nat.le_of_lt hb3))).trans (b4.mono (Nat.le_trans (Nat.le_of_lt hb3) HBX.out.size))); have hb4 := Nat.lt_of_lt_of_le hb3 (Nat.le_trans HBX.out.size b4.size); have X4 := Aside0.mk (blk_below (blk_alloc X3.out _) b4); clear b4)
          | (go_at_call 28; with_reducible refine (wStr b _ _ _ I4.out (by have := HLEN.out; have := HMS.out; simp only [List.length_append]; omega) (Nat.le_of_lt hb4)).mono ?_; rintro e w5 ⟨rfl, i5, b5, k5⟩; have I5 := Aside0.mk i5; have B5 := Aside0.mk (B4.out.trans b5); have hb5 := Nat.lt_of_lt_of_le hb4 b5.size; have X5 := Aside0.mk (ok_blk k5 X4.out (Nat.ne_of_gt hXb) (by decide)); clear i5 b5 k5)
          | (go_at_call 30; with_reducible refine (wRune b _ 124 (by omega) (by omega) _ I5.out (by have := HLEN.out; have := HMS.out; rw [size_list] at this; simp only [List.length_append]; omega) (Nat.le_of_lt hb5)).mono ?_; rintro e w6 ⟨rfl, i6, b6, k6⟩; have I6 := Aside0.mk i6; have B6 := Aside0.mk (B5.out.trans b6); have hb6 := Nat.lt_of_lt_of_le hb5 b6.size; have X6 := Aside0.mk (ok_blk k6 X5.out (Nat.ne_of_gt hXb) (by decide)); clear i6 b6 k6))
        go_roundg (gk - 1)
        case measure => have := HK.out; omega
        case rel =>
          refine ⟨i + 1, by go_num, ⟨by have := HK.out; omega⟩, ⟨?_⟩, X6, B6, ⟨hb6⟩⟩
          have h6 := I6.out
          have ea : alAt cs i = c.1 := by simp [alAt, List.getD, HCI.out]
          have ew : (ws.getD i 0).toNat = n := by simp [List.getD, HXI.out]
          show IsB b (colsT idx true width ws cs i ++ colT idx true width ws cs i) w6
          unfold colT
          rw [ea, ew]
          simpa [List.append_assoc] using h6
      | false =>
        have HMS := Aside0.mk (mdB_size c.1 0 (by omega))
        go_wp2_with (first
          | (go_at_call 16; refine (mdProp0 c.1 none w3).mono ?_; rintro e w4 ⟨rfl, b4⟩; have I4 := Aside0.mk (I3.out.keep b4); have B4 := Aside0.mk (B3.out.trans (b4.mono (Nat.le_of_lt hb3))); have hb4 := Nat.lt_of_lt_of_le hb3 b4.size; have X4 := Aside0.mk (blk_below X3.out b4); clear b4)
          | (go_at_call 28; with_reducible refine (wStr b _ _ _ I4.out (by have := HLEN.out; have := HMS.out; simp only [List.length_append]; omega) (Nat.le_of_lt hb4)).mono ?_; rintro e w5 ⟨rfl, i5, b5, k5⟩; have I5 := Aside0.mk i5; have B5 := Aside0.mk (B4.out.trans b5); have hb5 := Nat.lt_of_lt_of_le hb4 b5.size; have X5 := Aside0.mk (ok_blk k5 X4.out (Nat.ne_of_gt hXb) (by decide)); clear i5 b5 k5)
          | (go_at_call 30; with_reducible refine (wRune b _ 124 (by omega) (by omega) _ I5.out (by have := HLEN.out; have := HMS.out; rw [size_list] at this; simp only [List.length_append]; omega) (Nat.le_of_lt hb5)).mono ?_; rintro e w6 ⟨rfl, i6, b6, k6⟩; have I6 := Aside0.mk i6; have B6 := Aside0.mk (B5.out.trans b6); have hb6 := Nat.lt_of_lt_of_le hb5 b6.size; have X6 := Aside0.mk (ok_blk k6 X5.out (Nat.ne_of_gt hXb) (by decide)); clear i6 b6 k6))
        go_roundg (gk - 1)
        case measure => have := HK.out; omega
        case rel =>
          refine ⟨i + 1, by go_num, ⟨by have := HK.out; omega⟩, ⟨?_⟩, X6, B6, ⟨hb6⟩⟩
          have h6 := I6.out
          have ea : alAt cs i = c.1 := by simp [alAt, List.getD, HCI.out]
          show IsB b (colsT idx false width ws cs i ++ colT idx false width ws cs i) w6
          unfold colT
          rw [ea]
          simpa [List.append_assoc] using h6
    · have hin : i = ws.length := by have := HK.out; omega
      have p1 : decide ((i : Int) < (ws.length : Int)) = false := decide_eq_false (by omega)
      go_wp2
      go_end0
      rw [hin] at II
      exact ⟨rfl, II.out, B0.out⟩
end Go.Proofs.Ytedknmaaaaomoaa.Hand
