/- What lightstrconv.FormatUint computes at base 10: the decimal digits. -/
import Derived.Test.YtnmochachiieaaaDoorProg
import Derived.Test.YtnmochachiieaaaDoorWMore
import Derived.Test.YtnmochachiieaaaDoorBase
namespace Go.Proofs.YtnmochachiieaaaDoor.Hand
open Go.RowKit Go.Proofs.YtnmochachiieaaaDoorW.PrintWords Go.Proofs.YtnmochachiieaaaDoorW.PrintLast Go.Proofs.YtnmochachiieaaaDoorW.PrintMore
open Go.Proofs.YtnmochachiieaaaDoor.Base
set_option linter.unusedVariables false
set_option linter.unusedSimpArgs false

/-- The decimal digits of a number that is not 0; of 0 none. -/
def pre (n : Nat) : List UInt8 := if h : n = 0 then [] else pre (n / 10) ++ [UInt8.ofNat (48 + n % 10)]
termination_by n
decreasing_by omega
theorem pre_zero : pre 0 = [] := by unfold pre; rw [dif_pos rfl]
theorem pre_pos {n : Nat} (h : n ≠ 0) : pre n = pre (n / 10) ++ [UInt8.ofNat (48 + n % 10)] := by
  conv => lhs; unfold pre
  rw [dif_neg h]
theorem pre_len : ∀ (j n : Nat), n < 10 ^ j → (pre n).length ≤ j := by
  intro j
  induction j with
  | zero => intro n h; have : n = 0 := by simpa using h
            subst this; rw [pre_zero]; simp
  | succ j ih =>
    intro n h
    by_cases h0 : n = 0
    · subst h0; rw [pre_zero]; simp
    · rw [pre_pos h0, List.length_append]
      have := ih (n / 10) (by rw [Nat.div_lt_iff_lt_mul (by decide)]; rw [Nat.pow_succ] at h; exact h)
      simp; omega
/-- The decimal digits. -/
def dec (n : Nat) : List UInt8 := if n = 0 then [48] else pre n
theorem dec_len {n : Nat} (h : n < 18446744073709551616) : (dec n).length ≤ 20 := by
  unfold dec
  split
  · simp
  · exact pre_len 20 n (by omega)
def lightstrconv_FormatUint.f (a0 a1 : Int) : Option ByteArray := if a1 = 10 ∧ 0 ≤ a0 ∧ a0 < 18446744073709551616 then some ⟨(dec a0.toNat).toArray⟩ else none

theorem dig_at (d : Nat) (h : d < 10) (hd : d < (⟨#[48, 49, 50, 51, 52, 53, 54, 55, 56, 57, 97, 98, 99, 100, 101, 102, 103, 104, 105, 106, 107, 108, 109, 110, 111, 112, 113, 114, 115, 116, 117, 118, 119, 120, 121, 122]⟩ : ByteArray).size) :
    ((⟨#[48, 49, 50, 51, 52, 53, 54, 55, 56, 57, 97, 98, 99, 100, 101, 102, 103, 104, 105, 106, 107, 108, 109, 110, 111, 112, 113, 114, 115, 116, 117, 118, 119, 120, 121, 122]⟩ : ByteArray)[d]'hd).toNat = (UInt8.ofNat (48 + d)).toNat := by
  have : d = 0 ∨ d = 1 ∨ d = 2 ∨ d = 3 ∨ d = 4 ∨ d = 5 ∨ d = 6 ∨ d = 7 ∨ d = 8 ∨ d = 9 := by omega
  rcases this with rfl | rfl | rfl | rfl | rfl | rfl | rfl | rfl | rfl | rfl <;> rfl
theorem zeros_set (k : Nat) (z v : Value) (t : List Value) : (List.replicate (k + 1) z ++ t).toArray.setIfInBounds k v = (List.replicate k z ++ v :: t).toArray := by
  rw [List.setIfInBounds_toArray]
  congr 1
  rw [List.replicate_succ', List.append_assoc, List.set_append_right _ _ (by simp)]
  simp
theorem zeros_get (k : Nat) (z : Value) (t : List Value) : (List.replicate (k + 1) z ++ t).toArray[k]? = some z := by
  simp [List.getElem?_append, List.getElem?_replicate]
set_option maxHeartbeats 8000000 in
set_option maxRecDepth 100000 in
theorem fmt_calls (n : Nat) (w : World) (hn : n < 18446744073709551616) : Calls Tryd.prog 50 #[.int .u64 (n : Int), .int .i64 10] w fun e w' => e = .returned (.string ⟨(dec n).toArray⟩) ∧ Below w.heap.size w w' := by
  have HN := Aside0.mk hn
  clear hn
  have HB := Aside0.mk (Below.refl w.heap.size w)
  have HG := Aside0.mk (heap_alloc_new w (.cells (List.replicate 64 (Value.int .u8 0)).toArray 101 (0, 0)))
  have HB1 := Aside0.mk (below_alloc HB.out (.cells (List.replicate 64 (Value.int .u8 0)).toArray 101 (0, 0)))
  go_enter Tryd.func50, Tryd.ntmps50
  go_wp2
  go_loopg [0, 6] 64 (fun kq v0 v6 w' => ∃ (m : Nat) (l : List UInt8), v0 = .int .u64 (m : Int) ∧ v6 = .int .i64 (kq : Int) ∧ Aside0 (l.length + kq = 64) ∧ Aside0 (m ≤ n) ∧ Aside0 ((l = [] ∧ m = n) ∨ (l ≠ [] ∧ pre m ++ l = dec n)) ∧ Aside0 (w'.heap[w.heap.size]? = some (.cells (List.replicate kq (Value.int .u8 0) ++ l.map (fun b => Value.int .u8 (b.toNat : Int))).toArray 101 (0, 0))) ∧ Aside0 (Below w.heap.size w w'))
  case atStart => exact ⟨n, [], rfl, rfl, ⟨rfl⟩, ⟨Nat.le_refl _⟩, ⟨.inl ⟨rfl, rfl⟩⟩, ⟨HG.out⟩, ⟨HB1.out⟩⟩
  case round =>
    clear HG HB1 HB
    obtain ⟨m, l, rfl, rfl, HL, HM, HI, BK, HB⟩ := hrel
    have hmn : m < 18446744073709551616 := Nat.lt_of_le_of_lt HM.out HN.out
    by_cases hgo : l = [] ∨ 0 < m
    · have hgk : 0 < gk := by
        have h1 := HL.out
        rcases HI.out with ⟨h2, _⟩ | ⟨h2, h3⟩
        · rw [h2] at h1; simp at h1; omega
        · have hm0 : 0 < m := by rcases hgo with h | h; exact absurd h h2; exact h
          have h4 := congrArg List.length h3
          have h5 := dec_len HN.out
          rw [List.length_append] at h4
          omega
      have hgk2 : gk ≤ 64 := by have := HL.out; omega
      obtain ⟨q, hq⟩ : ∃ q, gk = q + 1 := ⟨gk - 1, by omega⟩
      have HNEW := Aside0.mk (show (l ≠ [] → pre m = pre (m / 10) ++ [UInt8.ofNat (48 + m % 10)]) from fun hl => pre_pos (by rcases hgo with h | h; exact absurd h hl; omega))
      have hrest : Aside0 (pre (m / 10) ++ (UInt8.ofNat (48 + m % 10) :: l) = dec n) := ⟨by
        rcases HI.out with ⟨h2, h3⟩ | ⟨h2, h3⟩
        · subst h2; subst h3
          unfold dec
          split
          · rename_i h0; subst h0; rw [pre_zero]; rfl
          · rename_i h0; rw [pre_pos h0]
        · rw [← h3, HNEW.out h2]; simp⟩
      have hc0 : wr.cell? ⟨w.heap.size, gk - 1, none⟩ = some (.int .u8 0) := by
        rw [blk_cell BK.out, hq]
        exact zeros_get q _ _
      have hf0 : wr.frozen? ⟨w.heap.size, gk - 1, none⟩ = false := blk_frozen BK.out _
      have BK2 : ∀ v : Int, v = ((UInt8.ofNat (48 + m % 10)).toNat : Int) → Aside0 ((wr.setCell ⟨w.heap.size, gk - 1, none⟩ (.int .u8 v)).heap[w.heap.size]? = some (.cells (List.replicate (gk - 1) (Value.int .u8 0) ++ (UInt8.ofNat (48 + m % 10) :: l).map (fun b => Value.int .u8 (b.toNat : Int))).toArray 101 (0, 0))) := fun v hv => ⟨by
        refine blk_put BK.out (gk - 1) _ ?_
        rw [hq, hv]
        exact zeros_set q _ _ _⟩
      have HB2 : ∀ v : Value, Aside0 (Below w.heap.size w (wr.setCell ⟨w.heap.size, gk - 1, none⟩ v)) := fun v => ⟨below_set HB.out (Nat.le_refl _)⟩
      have HQ := Aside0.mk hq
      have hI2 : Aside0 ((UInt8.ofNat (48 + m % 10) :: l).length + (gk - 1) = 64) := ⟨by have := HL.out; simp; omega⟩
      have hM2 : Aside0 (m / 10 ≤ n) := ⟨by have := HM.out; omega⟩
      clear hq HNEW BK HB
      have HBK2 := Aside0.mk BK2
      have HHB2 := Aside0.mk HB2
      clear BK2 HB2
      have fin : ∀ v : Int, v = ((UInt8.ofNat (48 + m % 10)).toNat : Int) → True := fun _ _ => trivial
      clear fin
      by_cases h64 : gk = 64
      · have c1 : ((gk : Int) == 64) = true := by rw [h64]; rfl
        clear h64 hgo
        go_wp2
        go_roundg (gk - 1)
        case measure => omega
        case rel => exact ⟨m / 10, UInt8.ofNat (48 + m % 10) :: l, by go_num, by go_num, hI2, hM2, ⟨.inr ⟨by simp, hrest.out⟩⟩, HBK2.out _ (by rw [dig_at _ (by omega)]), HHB2.out _⟩
      · have c1 : ((gk : Int) == 64) = false := beq_eq_false_iff_ne.mpr (by omega)
        have hm0 : 0 < m := by
          rcases hgo with h | h
          · have := HL.out; rw [h] at this; simp at this; omega
          · exact h
        have c2 : decide (0 < (m : Int)) = true := decide_eq_true (by omega)
        clear h64 hgo
        go_wp2
        go_roundg (gk - 1)
        case measure => omega
        case rel => exact ⟨m / 10, UInt8.ofNat (48 + m % 10) :: l, by go_num, by go_num, hI2, hM2, ⟨.inr ⟨by simp, hrest.out⟩⟩, HBK2.out _ (by rw [dig_at _ (by omega)]), HHB2.out _⟩
    · have hl : l ≠ [] := fun h => hgo (.inl h)
      have hm : m = 0 := by omega
      have hdec : l = dec n := by
        rcases HI.out with ⟨h2, _⟩ | ⟨_, h3⟩
        · exact absurd h2 hl
        · rw [hm, pre_zero] at h3; simpa using h3
      have hl1 : 0 < l.length := by cases l with
        | nil => exact absurd rfl hl
        | cons b l => simp
      have hgk2 : gk < 64 := by have := HL.out; omega
      have c1 : ((gk : Int) == 64) = false := beq_eq_false_iff_ne.mpr (by omega)
      have c2 : decide (0 < (m : Int)) = false := decide_eq_false (by omega)
      have c3 : decide (0 < m) = false := decide_eq_false (by omega)
      have hlen : 64 - gk = l.length := by have := HL.out; omega
      have hC : (Kd.int .u8).C wr (some ⟨w.heap.size, gk, none⟩) l.length (l.map fun b => (b.toNat : Int)) := by
        refine ⟨by simp, by omega, fun _ => ⟨_, rfl, fun j p hj => ⟨[.int .u8 p], rfl, rfl, fun i u hu => ?_⟩⟩⟩
        have hi : i = 0 := by
          rcases Nat.eq_zero_or_pos i with h | h
          · exact h
          · rw [List.getElem?_eq_none (show 1 ≤ i from h)] at hu; cases hu
        subst hi
        have hu : Value.int .u8 p = u := by simpa using hu
        subst hu
        rw [List.getElem?_map] at hj
        obtain ⟨b, hb, rfl⟩ := Option.map_eq_some_iff.1 hj
        have hcell := blk_cell BK.out (gk + j)
        have e1 : (Addr.add ⟨w.heap.size, gk, none⟩ (j * (Kd.int .u8).sz + 0)) = ⟨w.heap.size, gk + j, none⟩ := by
          show Addr.add _ (j * 1 + 0) = _
          rw [Nat.mul_one, Nat.add_zero]
          simp [Addr.add]
        rw [e1, hcell]
        simp [List.getElem?_append, hb]
      have hcv := Kd.C_string (P := Tryd.prog) (A := some ⟨w.heap.size, gk, none⟩) (c := l.length) Tryd.underlying39 Tryd.underlying5 Tryd.underlying9 hC
      have hstr : strOfNums (l.map fun b => (b.toNat : Int)) = ⟨(dec n).toArray⟩ := by
        unfold strOfNums
        rw [List.map_map, ← hdec]
        congr 2
        conv => rhs; rw [← List.map_id l]
        apply List.map_congr_left
        intro b _
        simp
      rw [hstr, ← hlen] at hcv
      have hsl : (Instr.sliceAt 101 (.pointer (some ⟨w.heap.size, 0, none⟩)) (some (.int .i64 (gk : Int))) none none).run Tryd.prog wr = .ok (.slice (some ⟨w.heap.size, gk, none⟩) (64 - gk) (64 - gk)) wr := by
        have hal : Program.arrayLen Tryd.prog 101 = 64 := by kernel_rfl
        have hel : Program.elem Tryd.prog 101 = 5 := by kernel_rfl
        have h1 := run_sliceAt_array_l (P := Tryd.prog) wr 101 ⟨w.heap.size, 0, none⟩ (by rw [hal, hel]; exact Tryd.underlying101) .i64 (gk : Int) (by omega) (by rw [hal]; omega)
        rw [h1, hel, hal]
        have h2 : (sizeOf 5).run Tryd.prog wr = .ok 1 wr := by first | exact Tryd.sizeOf5 wr | exact Tryd.sizeOf5 | (simp [Tryd.sizeOf5]; done) | rfl
        rw [h2]
        simp [slicedAt, Result.andThen, Addr.add]
        rw [if_neg (by omega)]
        split
        · rename_i h0; rw [h0]
        · rfl
      have HB3 := Aside0.mk HB.out
      clear hstr hdec hC hlen HB BK HI hm hgo
      go_wp2
      go_ret
      exact ⟨rfl, HB3.out⟩
theorem lightstrconv_FormatUint.calls (a0 a1 : Int) (r : ByteArray) (w : World) (h : lightstrconv_FormatUint.f a0 a1 = some r) :
    Calls Tryd.prog 50 #[.int .u64 a0, .int .i64 a1] w fun e w' => e = .returned (.string r) ∧ Below w.heap.size w w' := by
  unfold lightstrconv_FormatUint.f at h
  split at h
  case isFalse => cases h
  rename_i hc
  obtain ⟨rfl, h0, h1⟩ := hc
  obtain ⟨n, rfl⟩ := Int.eq_ofNat_of_zero_le h0
  obtain rfl := Option.some.inj h
  exact fmt_calls n w (by omega)
end Go.Proofs.YtnmochachiieaaaDoor.Hand
