/- What renderItemBulletPrefix writes: the style's prefix, and for each level a connector or blanks. -/
import Derived.Test.YthepbgakfkiliaaRHandListA
import Derived.Test.YthepbgakfkiliaaRHandBld
import Derived.Outline
namespace Go.Proofs.YthepbgakfkiliaaR.Hand
open Go.RowKit Go.Proofs.YthepbgakfkiliaaRW.PrintWords Go.Proofs.YthepbgakfkiliaaR.Base
set_option linter.unusedVariables false
set_option linter.unusedSimpArgs false

def prefL (pre vert cvs : List UInt8) (m : List Int) (n : Nat) : List UInt8 := pre ++ ((List.range n).map fun (k : Nat) => if moreL m (k : Int) then vert else cvs).flatten
theorem prefL_succ (pre vert cvs : List UInt8) (m : List Int) (n : Nat) : prefL pre vert cvs m (n + 1) = prefL pre vert cvs m n ++ (if moreL m (n : Int) then vert else cvs) := by
  unfold prefL
  rw [List.range_succ, List.map_append, List.flatten_append]
  simp
theorem prefL_len (pre vert cvs : List UInt8) (m : List Int) (M : Nat) (h1 : vert.length ≤ M) (h2 : cvs.length ≤ M) : ∀ n, (prefL pre vert cvs m n).length ≤ pre.length + n * M
  | 0 => by simp [prefL]
  | n + 1 => by
    have := prefL_len pre vert cvs m M h1 h2 n
    rw [prefL_succ, List.length_append, Nat.add_mul, Nat.one_mul]
    split <;> omega

set_option maxHeartbeats 8000000 in
set_option maxRecDepth 100000 in
theorem renderPrefix (w : World) (B L S b : Nat) (ap : Int) (cvs css : ByteArray) (lv0 : Int) (st : Sty) (v : Value) (xs : List (Int × ByteArray)) (H : ListIn w B L S ap cvs css lv0 st v xs) (bs : List UInt8) (hbl : Lib.IsBuilderF 81 5 B b (Lib.byteCells bs) w) (hBw : B ≤ w.heap.size)
    (at_ n : Nat) (hxs : xs.length ≤ 1000000000) (hat : at_ ≤ 1000000000) (hn : n ≤ 100000) (hp : st.pre.size ≤ 1000000) (hv : st.vert.size ≤ 1000000) (hc : cvs.size ≤ 1000000) (hb : bs.length ≤ 10000000000000) :
    Calls Try.prog 23 #[.pointer (some ⟨L, 0, none⟩), .pointer (some ⟨b, 0, none⟩), .int .i64 (at_ : Int), .int .i64 (n : Int)] w fun e w' => e = .returned (.tuple #[]) ∧ Lib.IsBuilderF 81 5 B b (Lib.byteCells (bs ++ prefL st.pre.data.toList st.vert.data.toList cvs.data.toList (lvs xs (at_ + 1)) n)) w' ∧ Below B w w' := by
  have HL := Aside0.mk H
  have HI := Aside0.mk hbl
  obtain ⟨_, _, hS, hL, _⟩ := H
  have hc5 : w.cell? ⟨L, 5, none⟩ = some (.pointer (some ⟨S, 0, none⟩)) := by rw [blk_cell hL]; rfl
  have hs8 : w.cell? ⟨S, 8, none⟩ = some (.string st.pre) := by rw [blk_cell hS]; rfl
  clear hS hL hbl
  go_enter Try.func23, Try.ntmps23
  go_upto_if 16 with (fail)
  go_cut [] (fun wc => Aside0 (Lib.IsBuilderF 81 5 B b (Lib.byteCells (bs ++ st.pre.data.toList)) wc) ∧ Aside0 (Below B w wc))
  case first =>
    cases he : st.pre.toList.isEmpty with
    | true =>
      go_wp2
      go_meet
      case rel =>
        have h0 : st.pre.data.toList = [] := by rw [← toList_data]; exact List.isEmpty_iff.1 he
        exact ⟨⟨by rw [h0, List.append_nil]; exact HI.out⟩, ⟨Below.refl _ _⟩⟩
    | false =>
      go_wp2_with (go_at_call 30; refine (writeString B b _ st.pre _ HI.out ?sideL ?sideB).mono ?_)
      case sideL => rw [Lib.byteCells_length]; omega
      case sideB => exact hBw
      rintro e w3 ⟨rfl, h3, b3, k3⟩
      have H3 := Aside0.mk h3
      have B3 := Aside0.mk b3
      clear h3 b3 k3
      go_wp2
      go_meet
      case rel => exact ⟨⟨by rw [Lib.byteCells_append]; exact Or.inr H3.out⟩, B3⟩
  case rest =>
    obtain ⟨I2, B2⟩ := hcut
    clear HI hc5 hs8
    go_wp2
    go_loopg [8] n (fun kq v8 w' => ∃ i : Nat, v8 = .int .i64 (i : Int) ∧ Aside0 (i + kq = n) ∧ Aside0 (Lib.IsBuilderF 81 5 B b (Lib.byteCells (bs ++ prefL st.pre.data.toList st.vert.data.toList cvs.data.toList (lvs xs (at_ + 1)) i)) w') ∧ Aside0 (Below B w w'))
    case atStart => exact ⟨0, rfl, ⟨by omega⟩, ⟨by simpa [prefL] using I2.out⟩, B2⟩
    case round =>
      clear I2 B2
      obtain ⟨i, rfl, HK, I3, B3⟩ := hrel
      by_cases hi : i < n
      · have H3 := Aside0.mk (HL.out.below B3.out)
        obtain ⟨_, _, hS, hL, _⟩ := H3.out
        have hc5 : wr.cell? ⟨L, 5, none⟩ = some (.pointer (some ⟨S, 0, none⟩)) := by rw [blk_cell hL]; rfl
        have hc1 : wr.cell? ⟨L, 1, none⟩ = some (.string cvs) := by rw [blk_cell hL]; rfl
        have hs5 : wr.cell? ⟨S, 5, none⟩ = some (.string st.vert) := by rw [blk_cell hS]; rfl
        clear hS hL
        have p1 : decide ((i : Int) < (n : Int)) = true := decide_eq_true (by omega)
        have hsz := prefL_len st.pre.data.toList st.vert.data.toList cvs.data.toList (lvs xs (at_ + 1)) 1000000 (by rw [← size_list]; omega) (by rw [← size_list]; omega) i
        have hpz := size_list st.pre
        have hsz2 : i * 1000000 ≤ 100000 * 1000000 := Nat.mul_le_mul_right _ (by omega)
        have hBr : B ≤ wr.heap.size := Nat.le_trans hBw B3.out.size
        have hsl : (Lib.byteCells (bs ++ prefL st.pre.data.toList st.vert.data.toList cvs.data.toList (lvs xs (at_ + 1)) i)).length ≤ 20000000000000 := by rw [Lib.byteCells_length, List.length_append]; omega
        have SL := Aside0.mk hsl
        clear hsl hsz hpz hsz2
        cases hm : moreL (lvs xs (at_ + 1)) (i : Int) with
        | true =>
          have HM := Aside0.mk hm
          go_wp2_with (first
            | (go_at_call 31; refine (hasMore wr B L S ap cvs css lv0 st v xs H3.out (i : Int) at_ hxs hat).mono ?_; rw [HM.out]; rintro e w' ⟨rfl, rfl⟩)
            | (go_at_call 30; refine (writeString B b _ st.vert _ I3.out (by have := SL.out; omega) hBr).mono ?_; rintro e w4 ⟨rfl, h4, b4, k4⟩))
          have H4 := Aside0.mk h4
          have B4 := Aside0.mk b4
          clear h4 b4 k4
          go_roundg (gk - 1)
          case measure => have := HK.out; omega
          case rel => exact ⟨i + 1, by go_num, ⟨by have := HK.out; omega⟩, ⟨by rw [prefL_succ, HM.out, if_pos rfl, ← List.append_assoc, Lib.byteCells_append]; exact Or.inr H4.out⟩, ⟨B3.out.trans B4.out⟩⟩
        | false =>
          have HM := Aside0.mk hm
          go_wp2_with (first
            | (go_at_call 31; refine (hasMore wr B L S ap cvs css lv0 st v xs H3.out (i : Int) at_ hxs hat).mono ?_; rw [HM.out]; rintro e w' ⟨rfl, rfl⟩)
            | (go_at_call 30; refine (writeString B b _ cvs _ I3.out (by have := SL.out; omega) hBr).mono ?_; rintro e w4 ⟨rfl, h4, b4, k4⟩))
          have H4 := Aside0.mk h4
          have B4 := Aside0.mk b4
          clear h4 b4 k4
          go_roundg (gk - 1)
          case measure => have := HK.out; omega
          case rel => exact ⟨i + 1, by go_num, ⟨by have := HK.out; omega⟩, ⟨by rw [prefL_succ, HM.out, if_neg (by decide), ← List.append_assoc, Lib.byteCells_append]; exact Or.inr H4.out⟩, ⟨B3.out.trans B4.out⟩⟩
      · have p1 : decide ((i : Int) < (n : Int)) = false := decide_eq_false (by omega)
        go_wp2
        go_end0
        have hin : i = n := by have := HK.out; omega
        exact ⟨rfl, by rw [← hin]; exact I3.out, B3.out⟩
end Go.Proofs.YthepbgakfkiliaaR.Hand
