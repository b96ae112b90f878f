/- What table.ZzTsvRow writes: a row's cells with tabs between, in quotes where they must be. -/
import Derived.Test.YtimefacdnabkdabHandRune
import Derived.Test.YtimefacdnabkdabPItoax1
import Derived.Test.YtimefacdnabkdabPzzContainsAnyx1
import Derived.Test.YtimefacdnabkdabPzzContainsx1
import Derived.Test.YtimefacdnabkdabPzzReplaceAllx1
import Derived.Test.YtimefacdnabkdabBase
import Derived.Deep.Cut
namespace Go.Proofs.Ytimefacdnabkdab.Hand
open Go.RowKit Go.Proofs.YtimefacdnabkdabW.PrintWords Go.Proofs.YtimefacdnabkdabW.PrintMore Go.Proofs.Ytimefacdnabkdab.Base
set_option linter.unusedVariables false
set_option linter.unusedSimpArgs false

theorem ok_blk {e : TypeId} {b h : Nat} {w w' : World} {cs : Array Value} {t : TypeId} {f : Nat × Nat} (k : Lib.OthersKept e (some b) w w') (hh : w.heap[h]? = some (.cells cs t f)) (hb : h ≠ b) (ht : t ≠ e) : w'.heap[h]? = some (.cells cs t f) :=
  k h _ hh (by simpa using hb) (fun c fz e => by simp only [Obj.cells.injEq] at e; exact ht e.2.1)
theorem isb_used {B b : Nat} {bs : List Value} {w : World} (h : Lib.BuilderAtF 143 5 B b (.pointer (some ⟨b, 0, none⟩)) bs w) : Lib.IsBuilderF 143 5 B b bs w := Or.inr h
theorem isb_keep {B b : Nat} {bs : List Value} {w w' : World} (h : Lib.IsBuilderF 143 5 B b bs w) (hb : Below w.heap.size w w') : Lib.IsBuilderF 143 5 B b bs w' := by
  have key : ∀ p, Lib.BuilderAtF 143 5 B b p bs w → Lib.BuilderAtF 143 5 B b p bs w' := by
    rintro p ⟨hB, v, hv, hown, hne⟩
    refine ⟨hB, v, blk_below hv hb, ?_, hne⟩
    obtain ⟨h1, h2⟩ := hown
    refine ⟨h1, ?_⟩
    rcases h2 with h2 | ⟨g, cap, cur, fz, hv2, hg, hh, r⟩
    · exact .inl h2
    · exact .inr ⟨g, cap, cur, fz, hv2, hg, blk_below hh hb, r⟩
  rcases h with h | h
  · exact Or.inl (key _ h)
  · exact Or.inr (key _ h)

abbrev TNQ : ByteArray := ⟨#[9, 10, 34]⟩
abbrev SP4 : ByteArray := ⟨#[32, 32, 32, 32]⟩
abbrev QQ1 : ByteArray := ⟨#[34]⟩
abbrev QQ2 : ByteArray := ⟨#[34, 34]⟩
/-- A cell in quotes. -/
def quo.f (k : Nat) (x : ByteArray) : Option ByteArray := (PzzReplaceAll.table_zzReplaceAll.f k x QQ1 QQ2).bind fun t => if t.size ≤ 1000000000 then some ((QQ1 ++ t) ++ QQ1) else none
def tsvCell.f (k : Nat) (x : ByteArray) : Option ByteArray :=
  (PzzContainsAny.table_zzContainsAny.f k x TNQ).bind fun p => if p = true then quo.f k x else (PzzContains.table_zzContains.f k x SP4).bind fun q => if q = true then quo.f k x else some x

/-- With tabs between. -/
def joinTab : List ByteArray → List UInt8
  | [] => []
  | [x] => x.data.toList
  | x :: y :: r => x.data.toList ++ 9 :: joinTab (y :: r)
theorem joinTab_snoc : ∀ (l : List ByteArray) (x : ByteArray), l ≠ [] → joinTab (l ++ [x]) = joinTab l ++ 9 :: x.data.toList
  | [], _, h => absurd rfl h
  | [y], x, _ => rfl
  | y :: z :: r, x, _ => by
    show y.data.toList ++ 9 :: joinTab ((z :: r) ++ [x]) = (y.data.toList ++ 9 :: joinTab (z :: r)) ++ 9 :: x.data.toList
    rw [joinTab_snoc (z :: r) x (by simp)]
    simp
def hdT (idx : Bool) (n : List UInt8) (i : Nat) : List UInt8 := if i = 0 ∧ idx = true then n ++ [9] else []
def sepT (i : Nat) : List UInt8 := if 0 < i then [9] else []
def rowSt (idx : Bool) (n : List UInt8) (cs : List ByteArray) (i : Nat) : List UInt8 := (if 0 < i ∧ idx = true then n ++ [9] else []) ++ joinTab (cs.take i)
theorem rowSt_succ (idx : Bool) (n : List UInt8) (cs : List ByteArray) (i : Nat) (x : ByteArray) (hx : cs[i]? = some x) : rowSt idx n cs (i + 1) = rowSt idx n cs i ++ hdT idx n i ++ sepT i ++ x.data.toList := by
  have hi : i < cs.length := by
    rcases Nat.lt_or_ge i cs.length with h | h
    · exact h
    · rw [List.getElem?_eq_none h] at hx; cases hx
  rw [List.getElem?_eq_getElem hi] at hx
  have hx := Option.some.inj hx
  unfold rowSt hdT sepT
  rw [List.take_succ_eq_append_getElem hi, hx]
  cases i with
  | zero => cases idx <;> simp [joinTab]
  | succ i =>
    rw [joinTab_snoc _ _ (by intro e; rw [← List.length_eq_zero_iff, List.length_take] at e; omega)]
    cases idx <;> simp
theorem rowSt_len (idx : Bool) (n : List UInt8) (cs : List ByteArray) (hn : n.length ≤ 100) (hc : ∀ x ∈ cs, x.size ≤ 1000000) : ∀ i, i ≤ cs.length → (rowSt idx n cs i).length ≤ 200 + i * 1000001
  | 0, _ => by simp [rowSt, joinTab]
  | i + 1, h => by
    have ih := rowSt_len idx n cs hn hc i (by omega)
    have hx : cs[i]? = some cs[i] := by simp
    have hz := hc cs[i] (List.getElem_mem _)
    have hsz := size_list cs[i]
    cases i with
    | zero =>
      rw [rowSt_succ idx n cs 0 _ hx]
      simp only [List.length_append]
      have h1 : (rowSt idx n cs 0).length = 0 := by simp [rowSt, joinTab]
      have h2 : (hdT idx n 0).length ≤ 101 := by
        unfold hdT
        split
        · rw [List.length_append, List.length_singleton]; omega
        · simp
      have h3 : (sepT 0).length = 0 := rfl
      omega
    | succ i =>
      rw [rowSt_succ idx n cs (i + 1) _ hx]
      simp only [List.length_append]
      have h2 : (hdT idx n (i + 1)).length = 0 := by unfold hdT; rw [if_neg (fun e => absurd e.1 (by omega))]; rfl
      have h3 : (sepT (i + 1)).length = 1 := by unfold sepT; rw [if_pos (by omega)]; rfl
      omega
/-- The hint of a row with a number. -/
def hintC (num : Int) : Array Value := #[.bool false, .bool false, .bool false, .bool false, .bool false, .bool false, .bool false, .bool false, .bool false, .bool false, .bool false, .int .i64 0, .int .i64 num, .int .i64 0]

set_option maxHeartbeats 4000000 in
theorem isRegular (h : Nat) (num : Int) (w : World) (hh : w.heap[h]? = some (.cells (hintC num) 147 (0, 0))) :
    Calls Try.prog 66 #[.pointer (some ⟨h, 0, none⟩)] w fun e w' => e = .returned (.bool true) ∧ w = w' := by
  have c5 : w.cell? ⟨h, 5, none⟩ = some (.bool false) := by rw [blk_cell hh]; rfl
  have c6 : w.cell? ⟨h, 6, none⟩ = some (.bool false) := by rw [blk_cell hh]; rfl
  clear hh
  go_enter Try.func66, Try.ntmps66
  go_wp2
  go_ret
  exact ⟨rfl, rfl⟩
theorem byteTab : Lib.runeCells 9 = Lib.byteCells [9] := runeCells_ascii 9 (by omega)

theorem isb_drw {B b : Nat} {bs : List Value} {w : World} (h : Lib.IsBuilderF 143 5 B b bs w) (n : Nat) : Lib.IsBuilderF 143 5 B b bs (w.drewN n) := h
theorem tab_one {b j m : Nat} {row : List UInt8} {w : World} (hj : m ≤ j) (h : Lib.IsBuilderF 143 5 b b (Lib.byteCells (row ++ List.replicate (j - m) 9) ++ Lib.runeCells 9) w) : Lib.IsBuilderF 143 5 b b (Lib.byteCells (row ++ List.replicate (j + 1 - m) 9)) w := by
  rw [byteTab, ← Lib.byteCells_append, List.append_assoc] at h
  have e : List.replicate (j + 1 - m) (9 : UInt8) = List.replicate (j - m) 9 ++ [9] := by rw [show j + 1 - m = (j - m) + 1 by omega, List.replicate_succ']
  rw [e]
  exact h
theorem hd_bytes {b : Nat} {cur : List UInt8} {n : ByteArray} {w : World} (h : Lib.IsBuilderF 143 5 b b ((Lib.byteCells cur ++ Lib.strCells n) ++ Lib.runeCells 9) w) : Lib.IsBuilderF 143 5 b b (Lib.byteCells (cur ++ hdT true n.data.toList 0)) w := by
  rw [byteTab] at h
  have e : hdT true n.data.toList 0 = n.data.toList ++ [9] := rfl
  rw [e, Lib.byteCells_append, Lib.byteCells_append, ← List.append_assoc]
  exact h
theorem hd_none {b : Nat} {cur : List UInt8} {n : ByteArray} {idx : Bool} {i : Nat} {w : World} (hi : ¬ i = 0) (h : Lib.IsBuilderF 143 5 b b (Lib.byteCells cur) w) : Lib.IsBuilderF 143 5 b b (Lib.byteCells (cur ++ hdT idx n.data.toList i)) w := by
  have e : hdT idx n.data.toList i = [] := by unfold hdT; rw [if_neg (fun e => hi e.1)]
  rw [e, List.append_nil]; exact h
theorem sep_bytes {b i : Nat} {cur : List UInt8} {w : World} (hi : 0 < i) (h : Lib.IsBuilderF 143 5 b b (Lib.byteCells cur ++ Lib.runeCells 9) w) : Lib.IsBuilderF 143 5 b b (Lib.byteCells (cur ++ sepT i)) w := by
  rw [byteTab] at h
  have e : sepT i = [9] := by unfold sepT; rw [if_pos hi]
  rw [e, Lib.byteCells_append]
  exact h
theorem sep_none {b i : Nat} {cur : List UInt8} {w : World} (hi : ¬ 0 < i) (h : Lib.IsBuilderF 143 5 b b (Lib.byteCells cur) w) : Lib.IsBuilderF 143 5 b b (Lib.byteCells (cur ++ sepT i)) w := by
  have e : sepT i = [] := by unfold sepT; rw [if_neg hi]
  rw [e, List.append_nil]; exact h

set_option maxHeartbeats 16000000 in
set_option maxRecDepth 100000 in
theorem tsvRenderRow (T b : Nat) (idx : Bool) (cols : Int) (num : Int) (A0 : Option Addr) (c0 : Nat) (l0 cs : List ByteArray) (n : ByteArray) (k : Nat) (w : World) (hT : T < b) (hr0 : Kd.C Kd.string w A0 l0.length l0)
    (hold : ∀ (i : Nat) w', Below b w w' → Kd.C Kd.string w' A0 l0.length l0)
    (h1 : w.cell? ⟨T, 1, none⟩ = some (.bool idx)) (h14 : w.cell? ⟨T, 14, none⟩ = some (.int .i64 cols)) (hbl : Lib.IsBuilderF 143 5 b b (Lib.byteCells []) w) (hbw : b < w.heap.size)
    (hn : PItoa.lightstrconv_Itoa.f num = some n) (hcs : l0.length = cs.length) (hcell : ∀ (i : Nat) x y, l0[i]? = some x → cs[i]? = some y → tsvCell.f k x = some y) (hsz : ∀ y ∈ cs, y.size ≤ 1000000) (hlen : l0.length ≤ 1000000) (hnz : n.size ≤ 100) (hcols : 0 ≤ cols) (hcols2 : cols ≤ 1000000000) :
    Calls Try.prog 52 #[.pointer (some ⟨T, 0, none⟩), .pointer (some ⟨b, 0, none⟩), .slice A0 l0.length c0, .agg (hintC num)] w fun e w' => e = .returned (.tuple #[]) ∧ Lib.IsBuilderF 143 5 b b (Lib.byteCells (rowSt idx n.data.toList cs cs.length ++ List.replicate (cols.toNat - cs.length) 9)) w' ∧ Below b w w' := by
  have HOLD := Aside0.mk hold
  have HI := Aside0.mk hbl
  have HN := Aside0.mk hn
  have HCELL := Aside0.mk hcell
  have HSZ := Aside0.mk hsz
  have H1 := Aside0.mk h1
  have H14 := Aside0.mk h14
  have HCS := Aside0.mk hcs
  clear hcs hold hbl hn hcell hsz h1 h14 hr0
  unfold hintC
  go_enter Try.func52, Try.ntmps52
  go_upto_if 13 with (go_at_call 64; refine (Try.Builder_Len_f b b _ _ (isb_keep HI.out (below_alloc (Below.refl _ _) _))).mono ?_; rintro e w' ⟨rfl, rfl⟩)
  have HH : Aside0 ((w.alloc (.cells (hintC num) 147)).heap[w.heap.size]? = some (.cells (hintC num) 147 (0, 0))) := ⟨blk_new _ _⟩
  have I1 : Aside0 (Lib.IsBuilderF 143 5 b b (Lib.byteCells []) (w.alloc (.cells (hintC num) 147))) := ⟨isb_keep HI.out (below_alloc (Below.refl _ _) _)⟩
  have B1 : Aside0 (Below b w (w.alloc (.cells (hintC num) 147))) := ⟨(Below.refl b w).alloc (Nat.le_of_lt hbw) _⟩
  change Code.wp _ _ _ _ (w.alloc (.cells (hintC num) 147))
  obtain ⟨h, hh⟩ : ∃ h, w.heap.size = h := ⟨_, rfl⟩
  rw [hh] at HH ⊢
  have hhb : b < h := by omega
  generalize (w.alloc (.cells (hintC num) 147)) = w1 at HH I1 B1 ⊢
  clear HI hh
  go_wp2
  have hnl := size_list n
  go_loopg [18] l0.length (fun kq v18 w' => ∃ i : Nat, v18 = .int .i64 (i : Int) ∧ Aside0 (i + kq = l0.length) ∧ Aside0 (Lib.IsBuilderF 143 5 b b (Lib.byteCells (rowSt idx n.data.toList cs i)) w') ∧ Aside0 (w'.heap[h]? = some (.cells (hintC num) 147 (0, 0))) ∧ Aside0 (Below b w w'))
  case atStart => exact ⟨0, rfl, ⟨by omega⟩, ⟨by simpa [rowSt, joinTab] using I1.out⟩, HH, B1⟩
  case round =>
    clear I1 B1 HH
    obtain ⟨i, rfl, HK, I2, HH, B2⟩ := hrel
    by_cases hi : i < l0.length
    · have hics : i < cs.length := by have := HCS.out; omega
      obtain ⟨ad, e, hx⟩ := Kd.at_string (HOLD.out i wr B2.out) (i : Int) (by omega) (by omega)
      cases e
      obtain ⟨s, hs⟩ : ∃ s, rdOf ByteArray.empty l0 (i : Int) = s := ⟨_, rfl⟩
      rw [hs, Int.toNat_natCast] at hx
      have hs' : l0[i]? = some s := by rw [← hs]; simp [rdOf, List.getD, hi]
      obtain ⟨y, hy⟩ : ∃ y, cs[i]? = some y := ⟨cs[i], by simp [hics]⟩
      have HC := Aside0.mk (HCELL.out i s y hs' hy)
      have hyz := HSZ.out y (List.mem_of_getElem? hy)
      have HS := Aside0.mk (rowSt_succ idx n.data.toList cs i y hy)
      have hrl := rowSt_len idx n.data.toList cs (by omega) HSZ.out i (by omega)
      have hrl2 : (Lib.byteCells (rowSt idx n.data.toList cs i)).length ≤ 10000000000000 := by rw [Lib.byteCells_length]; omega
      have hwr : b < wr.heap.size := Nat.lt_of_lt_of_le hbw B2.out.size
      have p1 : decide ((i : Int) < (l0.length : Int)) = true := decide_eq_true (by omega)
      have t1 : wr.cell? ⟨T, 1, none⟩ = some (.bool idx) := (B2.out.cell (p := ⟨T, 1, none⟩) hT).trans H1.out
      clear hs hs' hy hrl
      generalize hcur : rowSt idx n.data.toList cs i = cur at I2 HS hrl2
      clear hcur
      go_upto_region 6 with (fail)
      clear hx p1
      go_cut [30] (fun v30 wc => v30 = .bool (decide (i = 0) && idx) ∧ Aside0 (Lib.IsBuilderF 143 5 b b (Lib.byteCells (cur)) wc) ∧ Aside0 (wc.heap[h]? = some (.cells (hintC num) 147 (0, 0))) ∧ Aside0 (Below b w wc))
      case first =>
        by_cases hi0 : i = 0
        · subst hi0
          go_wp2
          go_meet
          case rel => exact ⟨by simp, I2, HH, B2⟩
        · have e0 : ((i : Int) == 0) = false := by simpa using hi0
          go_wp2
          go_meet
          case rel => exact ⟨by simp [hi0], I2, HH, B2⟩
      case rest =>
       obtain ⟨rfl, I2, HH, B2⟩ := hcut
       have hwr : b < wc.heap.size := Nat.lt_of_lt_of_le hbw B2.out.size
       go_upto_if 30 with (fail)
       go_cut [] (fun wc => Aside0 (Lib.IsBuilderF 143 5 b b (Lib.byteCells (cur ++ hdT idx n.data.toList i)) wc) ∧ Aside0 (wc.heap[h]? = some (.cells (hintC num) 147 (0, 0))) ∧ Aside0 (Below b w wc))
       case first =>
        by_cases hi0 : i = 0
        · subst hi0
          cases idx with
          | true =>
            have hL4 : (Lib.byteCells cur ++ Lib.strCells n).length + 4 ≤ 140737488355328 := by rw [List.length_append, Lib.strCells_length]; omega
            have c12 : wc.cell? ⟨h, 12, none⟩ = some (.int .i64 num) := by rw [blk_cell HH.out]; rfl
            go_wp2_with (first
              | (go_at_call 66; refine (isRegular h num wc HH.out).mono ?_; rintro e w' ⟨rfl, rfl⟩)
              | (go_at_call 68; refine (PItoa.lightstrconv_Itoa.calls num n wc HN.out).mono ?_; rintro e w3 ⟨rfl, b3⟩; have I3 := Aside0.mk (isb_keep I2.out b3); have h3 := Aside0.mk (blk_below HH.out b3); have B3 := Aside0.mk (B2.out.trans (b3.mono (Nat.le_of_lt hwr))); have hw3 := Nat.lt_of_lt_of_le hwr b3.size; clear b3)
              | (go_at_call 67; refine (writeString b b _ n _ I3.out (by omega) (Nat.le_of_lt hw3)).mono ?_; rintro e w4 ⟨rfl, i4, b4, k4⟩; have I4 := Aside0.mk (isb_used i4); have h4 := Aside0.mk (ok_blk k4 h3.out (by omega) (by decide)); have B4 := Aside0.mk (B3.out.trans b4); have hw4 := Nat.lt_of_lt_of_le hw3 b4.size; clear i4 b4 k4)
              | (go_at_call 65; refine (writeRune b b (Lib.byteCells cur ++ Lib.strCells n) 9 (by omega) (by omega) _ I4.out hL4 (Nat.le_of_lt hw4)).mono ?_; rintro e w5 ⟨rfl, i5, b5, k5⟩; have I5 := Aside0.mk (isb_used i5); have h5 := Aside0.mk (ok_blk k5 h4.out (by omega) (by decide)); have B5 := Aside0.mk (B4.out.trans b5); clear i5 b5 k5))
            go_meet
            case rel => exact ⟨⟨hd_bytes I5.out⟩, h5, B5⟩
          | false =>
            go_wp2
            go_meet
            case rel => exact ⟨⟨by simpa [hdT] using I2.out⟩, HH, B2⟩
        · have e0 : (decide (i = 0) && idx) = false := by simp [hi0]
          rw [e0]
          go_wp2
          go_meet
          case rel => exact ⟨⟨hd_none hi0 I2.out⟩, HH, B2⟩
       case rest =>
        clear I2 HH B2 hwr
        obtain ⟨I3, HH, B3⟩ := hcut
        have hwr : b < wc.heap.size := Nat.lt_of_lt_of_le hbw B3.out.size
        have hdl : (hdT idx n.data.toList i).length ≤ 101 := by
          unfold hdT
          split
          · rw [List.length_append, List.length_singleton]; omega
          · simp
        have hL3 : (Lib.byteCells (cur ++ hdT idx n.data.toList i)).length ≤ 20000000000000 := by
          rw [Lib.byteCells_length] at hrl2
          rw [Lib.byteCells_length, List.length_append]; omega
        have e1 : decide (0 < i) = decide ((0 : Int) < (i : Int)) := by
          by_cases h : 0 < i
          · rw [decide_eq_true h, decide_eq_true (by omega)]
          · rw [decide_eq_false h, decide_eq_false (by omega)]
        clear e1
        generalize hst2 : cur ++ hdT idx n.data.toList i = cur2 at I3 HS hL3
        clear hst2 hdl
        go_upto_if 40 with (fail)
        go_cut [] (fun wc => Aside0 (Lib.IsBuilderF 143 5 b b (Lib.byteCells (cur2 ++ sepT i)) wc) ∧ Aside0 (wc.heap[h]? = some (.cells (hintC num) 147 (0, 0))) ∧ Aside0 (Below b w wc))
        case first =>
          by_cases h0 : 0 < i
          · have d1 : decide ((0 : Int) < (i : Int)) = true := decide_eq_true (by omega)
            have d2 : decide (0 < i) = true := decide_eq_true h0
            go_wp2_with (go_at_call 65; refine (writeRune b b (Lib.byteCells cur2) 9 (by omega) (by omega) _ I3.out (by omega) (Nat.le_of_lt hwr)).mono ?_; rintro e w5 ⟨rfl, i5, b5, k5⟩; have I5 := Aside0.mk (isb_used i5); have h5 := Aside0.mk (ok_blk k5 HH.out (by omega) (by decide)); have B5 := Aside0.mk (B3.out.trans b5); clear i5 b5 k5)
            go_meet
            case rel => exact ⟨⟨sep_bytes h0 I5.out⟩, h5, B5⟩
          · have d1 : decide ((0 : Int) < (i : Int)) = false := decide_eq_false (by omega)
            have d2 : decide (0 < i) = false := decide_eq_false h0
            go_wp2
            go_meet
            case rel => exact ⟨⟨sep_none h0 I3.out⟩, HH, B3⟩
        case rest =>
          clear I3 HH B3 hwr
          obtain ⟨I4, HH, B4⟩ := hcut
          have hwr : b < wc.heap.size := Nat.lt_of_lt_of_le hbw B4.out.size
          have hsl : (sepT i).length ≤ 1 := by unfold sepT; split <;> simp
          have hL4 : (Lib.byteCells (cur2 ++ sepT i)).length ≤ 30000000000000 := by
            rw [Lib.byteCells_length] at hL3
            rw [Lib.byteCells_length, List.length_append]; omega
          generalize hst3 : cur2 ++ sepT i = cur3 at I4 HS hL4
          clear hst3 hsl
          have hc := HC.out
          unfold tsvCell.f at hc
          obtain ⟨p, hp, hc⟩ := Option.bind_eq_some_iff.mp hc
          have HP := Aside0.mk hp
          clear hp
          cases p with
          | true =>
            rw [if_pos rfl] at hc
            unfold quo.f at hc
            obtain ⟨t, ht, hc⟩ := Option.bind_eq_some_iff.mp hc
            have HT := Aside0.mk ht
            split at hc
            case isFalse => cases hc
            rename_i htz
            obtain rfl := Option.some.inj hc
            clear hc ht
            have hq1 : QQ1.size = 1 := rfl
            have hz1 : QQ1.size + t.size ≤ 9223372036854775807 := by omega
            have hz2 : (QQ1 ++ t).size + QQ1.size ≤ 9223372036854775807 := by rw [ByteArray.size_append]; omega
            have hz3 : ((QQ1 ++ t) ++ QQ1).size = t.size + 2 := by rw [ByteArray.size_append, ByteArray.size_append]; omega
            go_wp2_with (first
              | (go_at_call 69; refine (PzzContainsAny.table_zzContainsAny.calls k s TNQ _ _ HP.out).mono ?_; rintro e w5 ⟨rfl, b5⟩; have I5 := Aside0.mk (isb_keep I4.out b5); have h5 := Aside0.mk (blk_below HH.out b5); have B5 := Aside0.mk (B4.out.trans (b5.mono (Nat.le_of_lt hwr))); have hw5 := Nat.lt_of_lt_of_le hwr b5.size; clear b5)
              | (go_at_call 71; refine (PzzReplaceAll.table_zzReplaceAll.calls k s QQ1 QQ2 t _ (by decide) HT.out).mono ?_; rintro e w7 ⟨rfl, b7⟩; have I7 := Aside0.mk (isb_keep I5.out b7); have h7 := Aside0.mk (blk_below h5.out b7); have B7 := Aside0.mk (B5.out.trans (b7.mono (Nat.le_of_lt hw5))); have hw7 := Nat.lt_of_lt_of_le hw5 b7.size; clear b7)
              | (go_at_call 67; refine (writeString b b (Lib.byteCells cur3) ((QQ1 ++ t) ++ QQ1) _ I7.out (by omega) (Nat.le_of_lt hw7)).mono ?_; rintro e w8 ⟨rfl, i8, b8, k8⟩; have I8 := Aside0.mk (isb_used i8); have h8 := Aside0.mk (ok_blk k8 h7.out (by omega) (by decide)); have B8 := Aside0.mk (B7.out.trans b8); clear i8 b8 k8))
            go_roundg (gk - 1)
            case measure => have := HK.out; omega
            case rel => exact ⟨i + 1, by go_num, ⟨by have := HK.out; omega⟩, ⟨by rw [HS.out, Lib.byteCells_append]; exact I8.out⟩, h8, B8⟩
          | false =>
            rw [if_neg (by decide)] at hc
            obtain ⟨q, hq, hc⟩ := Option.bind_eq_some_iff.mp hc
            have HQ := Aside0.mk hq
            clear hq
            cases q with
            | true =>
              rw [if_pos rfl] at hc
              unfold quo.f at hc
              obtain ⟨t, ht, hc⟩ := Option.bind_eq_some_iff.mp hc
              have HT := Aside0.mk ht
              split at hc
              case isFalse => cases hc
              rename_i htz
              obtain rfl := Option.some.inj hc
              clear hc ht
              have hq1 : QQ1.size = 1 := rfl
              have hz1 : QQ1.size + t.size ≤ 9223372036854775807 := by omega
              have hz2 : (QQ1 ++ t).size + QQ1.size ≤ 9223372036854775807 := by rw [ByteArray.size_append]; omega
              have hz3 : ((QQ1 ++ t) ++ QQ1).size = t.size + 2 := by rw [ByteArray.size_append, ByteArray.size_append]; omega
              go_wp2_with (first
                | (go_at_call 69; refine (PzzContainsAny.table_zzContainsAny.calls k s TNQ _ _ HP.out).mono ?_; rintro e w5 ⟨rfl, b5⟩; have I5 := Aside0.mk (isb_keep I4.out b5); have h5 := Aside0.mk (blk_below HH.out b5); have B5 := Aside0.mk (B4.out.trans (b5.mono (Nat.le_of_lt hwr))); have hw5 := Nat.lt_of_lt_of_le hwr b5.size; clear b5)
                | (go_at_call 70; refine (PzzContains.table_zzContains.calls k s SP4 _ _ HQ.out).mono ?_; rintro e w6 ⟨rfl, ⟨nd, rfl⟩⟩; have I6 := Aside0.mk (isb_drw I5.out nd); have h6 := Aside0.mk (blk_drewN h5.out nd); have B6 := Aside0.mk (pw_below_drewN B5.out nd); have hw6 : b < (w5.drewN nd).heap.size := hw5)
                | (go_at_call 71; refine (PzzReplaceAll.table_zzReplaceAll.calls k s QQ1 QQ2 t _ (by decide) HT.out).mono ?_; rintro e w7 ⟨rfl, b7⟩; have I7 := Aside0.mk (isb_keep I6.out b7); have h7 := Aside0.mk (blk_below h6.out b7); have B7 := Aside0.mk (B6.out.trans (b7.mono (Nat.le_of_lt hw6))); have hw7 := Nat.lt_of_lt_of_le hw6 b7.size; clear b7)
                | (go_at_call 67; refine (writeString b b (Lib.byteCells cur3) ((QQ1 ++ t) ++ QQ1) _ I7.out (by omega) (Nat.le_of_lt hw7)).mono ?_; rintro e w8 ⟨rfl, i8, b8, k8⟩; have I8 := Aside0.mk (isb_used i8); have h8 := Aside0.mk (ok_blk k8 h7.out (by omega) (by decide)); have B8 := Aside0.mk (B7.out.trans b8); clear i8 b8 k8))
              go_roundg (gk - 1)
              case measure => have := HK.out; omega
              case rel => exact ⟨i + 1, by go_num, ⟨by have := HK.out; omega⟩, ⟨by rw [HS.out, Lib.byteCells_append]; exact I8.out⟩, h8, B8⟩
            | false =>
              rw [if_neg (by decide)] at hc
              obtain rfl := Option.some.inj hc
              clear hc
              go_wp2_with (first
                | (go_at_call 69; refine (PzzContainsAny.table_zzContainsAny.calls k s TNQ _ _ HP.out).mono ?_; rintro e w5 ⟨rfl, b5⟩; have I5 := Aside0.mk (isb_keep I4.out b5); have h5 := Aside0.mk (blk_below HH.out b5); have B5 := Aside0.mk (B4.out.trans (b5.mono (Nat.le_of_lt hwr))); have hw5 := Nat.lt_of_lt_of_le hwr b5.size; clear b5)
                | (go_at_call 70; refine (PzzContains.table_zzContains.calls k s SP4 _ _ HQ.out).mono ?_; rintro e w6 ⟨rfl, ⟨nd, rfl⟩⟩; have I6 := Aside0.mk (isb_drw I5.out nd); have h6 := Aside0.mk (blk_drewN h5.out nd); have B6 := Aside0.mk (pw_below_drewN B5.out nd); have hw6 : b < (w5.drewN nd).heap.size := hw5)
                | (go_at_call 67; refine (writeString b b (Lib.byteCells cur3) s _ I6.out (by omega) (Nat.le_of_lt hw6)).mono ?_; rintro e w8 ⟨rfl, i8, b8, k8⟩; have I8 := Aside0.mk (isb_used i8); have h8 := Aside0.mk (ok_blk k8 h6.out (by omega) (by decide)); have B8 := Aside0.mk (B6.out.trans b8); clear i8 b8 k8))
              go_roundg (gk - 1)
              case measure => have := HK.out; omega
              case rel => exact ⟨i + 1, by go_num, ⟨by have := HK.out; omega⟩, ⟨by rw [HS.out, Lib.byteCells_append]; exact I8.out⟩, h8, B8⟩
    · have hin : i = cs.length := by have := HK.out; have := HCS.out; omega
      have p1 : decide ((i : Int) < (l0.length : Int)) = false := decide_eq_false (by omega)
      have hrl := rowSt_len idx n.data.toList cs (by omega) HSZ.out cs.length (Nat.le_refl _)
      have hcl := HCS.out
      subst hin
      generalize hrow : rowSt idx n.data.toList cs cs.length = row at I2 hrl ⊢
      have HROW := Aside0.mk hrow
      clear hrow HCELL HSZ HK
      have HCL := Aside0.mk hcl
      clear HCS hcl
      go_wp2
      clear p1
      go_loopg [10] (cols.toNat - l0.length) (fun kq v10 w' => ∃ j : Nat, v10 = .int .i64 (j : Int) ∧ Aside0 (l0.length ≤ j ∧ j ≤ 2000000000) ∧ Aside0 (j - l0.length + kq = cols.toNat - l0.length) ∧ Aside0 (Lib.IsBuilderF 143 5 b b (Lib.byteCells (row ++ List.replicate (j - l0.length) 9)) w') ∧ Aside0 (Below b w w'))
      case atStart => exact ⟨l0.length, rfl, ⟨by omega, by omega⟩, ⟨by omega⟩, ⟨by simpa using I2.out⟩, B2⟩
      case round =>
        clear I2 B2 HH
        obtain ⟨j, rfl, HJ, HK, I3, B3⟩ := hrel
        have t14 : wr.cell? ⟨T, 14, none⟩ = some (.int .i64 cols) := (B3.out.cell (p := ⟨T, 14, none⟩) hT).trans H14.out
        have hwr : b < wr.heap.size := Nat.lt_of_lt_of_le hbw B3.out.size
        have hj1 := HJ.out.1
        have hj2 := HJ.out.2
        have hjk := HK.out
        by_cases hj : (j : Int) < cols
        · have hL : (Lib.byteCells (row ++ List.replicate (j - l0.length) 9)).length ≤ 100000000000000 := by
            rw [Lib.byteCells_length, List.length_append, List.length_replicate]
            have := HCL.out
            omega
          go_wp2_with (go_at_call 65; refine (writeRune b b (Lib.byteCells (row ++ List.replicate (j - l0.length) 9)) 9 (by omega) (by omega) _ I3.out (by omega) (Nat.le_of_lt hwr)).mono ?_; rintro e w5 ⟨rfl, i5, b5, k5⟩; have I5 := Aside0.mk (isb_used i5); have B5 := Aside0.mk (B3.out.trans b5); clear i5 b5 k5)
          go_roundg (gk - 1)
          case measure => omega
          case rel => exact ⟨j + 1, by go_num, ⟨by omega, by omega⟩, ⟨by omega⟩, ⟨tab_one hj1 I5.out⟩, B5⟩
        · go_wp2
          go_end0
          have e : j - l0.length = cols.toNat - cs.length := by have := HCL.out; omega
          exact ⟨rfl, by rw [HROW.out, ← e]; exact I3.out, B3.out⟩

/-- A struct that is built, as one step. -/
theorem build_step {P : Program} {o : Oper} {a : Act} {w : World} {K : Act → World → Prop} {Q : Exit → Act → World → Prop} (t : TypeId) (parts : Array (Nat × Operand)) (hop : o.op = .build t parts) (v : Value) (h : (Instr.build t (parts.map fun p => (p.1, a.eval p.2))).run P w = .ok v w) (hK : K (a.put o.dst v) w) : o.wp P a w K Q := by
  have e : (execOp a.eval o).run P w = .ok (.value v) w := by
    simp only [execOp, hop]
    simp [h]
  unfold Oper.wp
  rw [e]
  exact hK
noncomputable def tabC (cols : Int) (idx : Bool) : Array Value :=
  match (Instr.build 140 #[(14, .int .i64 cols), (1, .bool idx)]).run Try.prog default with
  | .ok (.agg cs) _ => cs
  | _ => #[]
theorem tab_run (cols : Int) (idx : Bool) (w : World) : (Instr.build 140 #[(14, .int .i64 cols), (1, .bool idx)]).run Try.prog w = .ok (.agg (tabC cols idx)) w := by kernel_rfl
theorem tab_1 (cols : Int) (idx : Bool) : (tabC cols idx)[1]? = some (.bool idx) := by kernel_rfl
theorem tab_14 (cols : Int) (idx : Bool) : (tabC cols idx)[14]? = some (.int .i64 cols) := by kernel_rfl
def tsvText (idx : Bool) (n : ByteArray) (cs : List ByteArray) (cols : Int) : ByteArray := ⟨(rowSt idx n.data.toList cs cs.length ++ List.replicate (cols.toNat - cs.length) 9).toArray⟩
def cellsOf (k : Nat) : List ByteArray → Option (List ByteArray)
  | [] => some []
  | x :: r => (tsvCell.f k x).bind fun y => (cellsOf k r).bind fun ys => some (y :: ys)
theorem cellsOf_at (k : Nat) : ∀ (l cs : List ByteArray), cellsOf k l = some cs → l.length = cs.length ∧ ∀ (i : Nat) x y, l[i]? = some x → cs[i]? = some y → tsvCell.f k x = some y
  | [], cs, h => by
    obtain rfl := Option.some.inj h
    exact ⟨rfl, fun i x y hx => by simp at hx⟩
  | x :: r, cs, h => by
    obtain ⟨y, hy, h⟩ := Option.bind_eq_some_iff.mp h
    obtain ⟨ys, hys, h⟩ := Option.bind_eq_some_iff.mp h
    obtain rfl := Option.some.inj h
    obtain ⟨h1, h2⟩ := cellsOf_at k r ys hys
    refine ⟨by simp [h1], fun i a c ha hc => ?_⟩
    cases i with
    | zero =>
      simp at ha hc
      subst ha hc
      exact hy
    | succ i => exact h2 i a c (by simpa using ha) (by simpa using hc)
def table_ZzTsvRow.f (k : Nat) (l0 : List ByteArray) (a1 : Int) (a2 : Bool) (a3 : Int) : Option ByteArray :=
  (cellsOf k l0).bind fun cs => (PItoa.lightstrconv_Itoa.f a3).bind fun n =>
    if (∀ y ∈ cs, y.size ≤ 1000000) ∧ l0.length ≤ 1000000 ∧ n.size ≤ 100 ∧ 0 ≤ a1 ∧ a1 ≤ 1000000000 then some (tsvText a2 n cs a1) else none

theorem quo.mono (k : Nat) (x : ByteArray) : LeO (quo.f k x) (quo.f (k + 1) x) := by
  unfold quo.f
  repeat' first
      | (with_reducible exact LeO.refl _)
      | (with_reducible exact LeO.none _)
      | exact PzzReplaceAll.table_zzReplaceAll.mono _ _ _ _
      | exact PzzContainsAny.table_zzContainsAny.mono _ _ _
      | exact PzzContains.table_zzContains.mono _ _ _
      | refine LeO.ite ?_ ?_
      | refine LeO.bind ?_ (fun _ => ?_)
theorem tsvCell.mono (k : Nat) (x : ByteArray) : LeO (tsvCell.f k x) (tsvCell.f (k + 1) x) := by
  have hq := quo.mono k
  unfold tsvCell.f
  repeat' first
      | (with_reducible exact LeO.refl _)
      | (with_reducible exact LeO.none _)
      | exact PzzReplaceAll.table_zzReplaceAll.mono _ _ _ _
      | exact PzzContainsAny.table_zzContainsAny.mono _ _ _
      | exact PzzContains.table_zzContains.mono _ _ _
      | exact hq _
      | refine LeO.ite ?_ ?_
      | refine LeO.bind ?_ (fun _ => ?_)
theorem cellsOf.mono (k : Nat) : ∀ l, LeO (cellsOf k l) (cellsOf (k + 1) l)
  | [] => LeO.refl _
  | x :: r => by
    have h1 := tsvCell.mono k x
    have h2 := cellsOf.mono k r
    unfold cellsOf
    exact LeO.bind h1 (fun _ => LeO.bind h2 (fun _ => LeO.refl _))
theorem table_ZzTsvRow.mono : ∀ a0 a1 a2 a3 k, LeO (table_ZzTsvRow.f k a0 a1 a2 a3) (table_ZzTsvRow.f (k + 1) a0 a1 a2 a3) := by
  intro a0 a1 a2 a3 k
  unfold table_ZzTsvRow.f
  exact LeO.bind (cellsOf.mono k a0) (fun _ => LeO.refl _)

set_option maxHeartbeats 8000000 in
set_option maxRecDepth 100000 in
theorem table_ZzTsvRow.calls (k : Nat) (A0 : Option Addr) (c0 : Nat) (l0 : List ByteArray) (a1 : Int) (a2 : Bool) (a3 : Int) (r : ByteArray) (w : World) (hr0 : Kd.C Kd.string w A0 l0.length l0) (hc0 : l0.length ≤ c0) (h : table_ZzTsvRow.f k l0 a1 a2 a3 = some r) :
    Calls Try.prog 30 #[.slice A0 l0.length c0, .int .i64 a1, .bool a2, .int .i64 a3] w fun e w' => e = .returned (.string r) ∧ Below w.heap.size w w' := by
  unfold table_ZzTsvRow.f at h
  obtain ⟨cs, hcs, h⟩ := Option.bind_eq_some_iff.mp h
  obtain ⟨n, hn, h⟩ := Option.bind_eq_some_iff.mp h
  split at h
  case isFalse => cases h
  rename_i hz
  obtain rfl := Option.some.inj h
  obtain ⟨z1, z2, z3, z4, z5⟩ := hz
  obtain ⟨q1, q2⟩ := cellsOf_at k l0 cs hcs
  have HR0 := Aside0.mk hr0
  have HN := Aside0.mk hn
  have HQ1 := Aside0.mk q1
  have HQ2 := Aside0.mk q2
  have HZ1 := Aside0.mk z1
  clear hr0 hn q1 q2 z1 hcs h hc0
  go_enter Try.func30, Try.ntmps30
  go_upto_region 2 with (fail)
  refine build_step 140 _ rfl (.agg (tabC a1 a2)) (by have hb := tab_run a1 a2 w; simpa [Act.eval] using hb) ?_
  go_upto_region 2 with (fail)
  go_upto_region 3 with (fail)
  have hT0 := blk_alloc (blk_new w (.cells (tabC a1 a2) 140)) (.cells #[.pointer none, .slice none 0 0] 143)
  have B2 := below_alloc (below_alloc (Below.refl w.heap.size w) (.cells (tabC a1 a2) 140)) (.cells #[.pointer none, .slice none 0 0] 143)
  have H1 : Aside0 (((w.alloc (.cells (tabC a1 a2) 140)).alloc (.cells #[.pointer none, .slice none 0 0] 143)).cell? ⟨w.heap.size, 1, none⟩ = some (.bool a2)) := ⟨by rw [blk_cell hT0]; exact tab_1 a1 a2⟩
  have H14 : Aside0 (((w.alloc (.cells (tabC a1 a2) 140)).alloc (.cells #[.pointer none, .slice none 0 0] 143)).cell? ⟨w.heap.size, 14, none⟩ = some (.int .i64 a1)) := ⟨by rw [blk_cell hT0]; exact tab_14 a1 a2⟩
  have I2 : Aside0 (Lib.IsBuilderF 143 5 (w.heap.size + 1) (w.heap.size + 1) (Lib.byteCells []) ((w.alloc (.cells (tabC a1 a2) 140)).alloc (.cells #[.pointer none, .slice none 0 0] 143))) := by
    have e : (w.alloc (.cells (tabC a1 a2) 140)).heap.size = w.heap.size + 1 := by simp
    have := Lib.fresh_isBuilder 143 5 (w.alloc (.cells (tabC a1 a2) 140))
    rw [e] at this
    rcases this with h | h
    · exact ⟨Or.inl (Lib.BuilderAtF.of h)⟩
    · exact ⟨Or.inr (Lib.BuilderAtF.of h)⟩
  have BB2 := Aside0.mk B2
  have hsz : w.heap.size + 1 < ((w.alloc (.cells (tabC a1 a2) 140)).alloc (.cells #[.pointer none, .slice none 0 0] 143)).heap.size := by simp
  clear hT0 B2
  change Code.wp _ _ _ _ ((w.alloc (.cells (tabC a1 a2) 140)).alloc (.cells #[.pointer none, .slice none 0 0] 143))
  generalize ((w.alloc (.cells (tabC a1 a2) 140)).alloc (.cells #[.pointer none, .slice none 0 0] 143)) = w2 at H1 H14 I2 BB2 hsz ⊢
  go_wp2_with (first
    | (go_at_call 52; refine (tsvRenderRow w.heap.size (w.heap.size + 1) a2 a1 a3 A0 c0 l0 cs n k w2 (by omega) (Kd.C_below HR0.out BB2.out) (fun i w' hb => Kd.C_below HR0.out (BB2.out.trans (hb.mono (by omega)))) H1.out H14.out I2.out hsz HN.out HQ1.out HQ2.out HZ1.out z2 z3 z4 z5).mono ?_; rintro e w3 ⟨rfl, i3, b3⟩; have I3 := Aside0.mk i3; have B3 := Aside0.mk b3; have hs3 := Nat.le_of_lt (Nat.lt_of_lt_of_le hsz b3.size); clear i3 b3)
    | (go_at_call 53; refine (Try.Builder_String_any_k (w.heap.size + 1) (w.heap.size + 1) _ _ I3.out hs3).mono ?_; rintro e w4 ⟨rfl, _, b4, _⟩))
  go_ret
  exact ⟨rfl, (BB2.out.trans (B3.out.mono (by omega))).trans (b4.mono (by omega))⟩
end Go.Proofs.Ytimefacdnabkdab.Hand
