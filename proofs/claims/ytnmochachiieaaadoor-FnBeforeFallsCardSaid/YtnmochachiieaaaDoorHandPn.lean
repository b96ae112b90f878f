/- What lightstrconv.read answers, in plain, and its bytes. -/
import Derived.Test.YtnmochachiieaaaDoorHandPm
import Derived.Deep.Cut
namespace Go.Proofs.YtnmochachiieaaaDoor.Hand
open Go.RowKit Go.Proofs.YtnmochachiieaaaDoorW.PrintWords Go.Proofs.YtnmochachiieaaaDoorW.PrintLast Go.Proofs.YtnmochachiieaaaDoorW.PrintMore Go.Proofs.YtnmochachiieaaaDoor.Base
open Go.Proofs.YtnmochachiieaaaDoor.Pf
set_option linter.unusedVariables false
set_option linter.unusedSimpArgs false

theorem at_byte {s : ByteArray} {i : Nat} {q : UInt8} (h : s.data.toList[i]? = some q) : ∃ hi : i < s.size, s[i]'hi = q := by
  have hi : i < s.data.toList.length := by
    rcases Nat.lt_or_ge i s.data.toList.length with h' | h'
    · exact h'
    · rw [List.getElem?_eq_none h'] at h; cases h
  refine ⟨by rw [size_list]; exact hi, ?_⟩
  rw [List.getElem?_eq_getElem hi] at h
  exact Option.some.inj h
theorem byte_at {s : ByteArray} {i : Nat} (hi : i < s.size) : ∃ q, s.data.toList[i]? = some q ∧ s[i]'hi = q := ⟨s[i]'hi, by rw [List.getElem?_eq_getElem (by rw [← size_list]; exact hi)]; rfl, rfl⟩
theorem rest2_list (s : ByteArray) : (s.extract 2 s.size).data.toList = s.data.toList.drop 2 := by
  rw [ByteArray.data_extract, Array.toList_extract]
  rw [List.extract_eq_take_drop, List.take_of_length_le (by rw [List.length_drop]; have := size_list s; omega)]

/-- Is there a hexadecimal prefix? -/
def hexB (s : ByteArray) : Bool := match s.data.toList with
  | a :: q :: _ => decide (a.toNat = 48) && decide ((lowB q).toNat = 120)
  | _ => false
theorem hexB_two {s : ByteArray} {a q : UInt8} (h0 : s.data.toList[0]? = some a) (h1 : s.data.toList[1]? = some q) : hexB s = (decide (a.toNat = 48) && decide ((lowB q).toNat = 120)) := by
  unfold hexB
  match hl : s.data.toList with
  | [] => rw [hl] at h0; cases h0
  | [x] => rw [hl] at h1; cases h1
  | x :: y :: r =>
    rw [hl] at h0 h1
    obtain rfl : x = a := by simpa using h0
    obtain rfl : y = q := by simpa using h1
    rfl
theorem hexB_short {s : ByteArray} (h : ¬ 2 ≤ s.size) : hexB s = false := by
  unfold hexB
  match hl : s.data.toList with
  | [] => rfl
  | [x] => rfl
  | x :: y :: r => rw [size_list, hl] at h; simp at h
theorem hexB_yes {s : ByteArray} (h : hexB s = true) : ∃ q, s.data.toList[0]? = some 48 ∧ s.data.toList[1]? = some q ∧ (lowB q).toNat = 120 := by
  unfold hexB at h
  match hl : s.data.toList with
  | [] => rw [hl] at h; cases h
  | [x] => rw [hl] at h; cases h
  | x :: y :: r =>
    rw [hl] at h
    simp only [Bool.and_eq_true, decide_eq_true_eq] at h
    exact ⟨y, by rw [show x = 48 from UInt8.toNat_inj.1 h.1]; rfl, rfl, h.2⟩

theorem lower_46 (w : World) : Calls Tryd.prog 37 #[.int .u8 46] w fun e w' => e = .returned (.int .u8 46) ∧ w = w' := lower_any 46 w
def hexC (m : Nat) (ex : Int) : Dc := if m = 0 ∨ ex < -1300 then ⟨[], 0⟩ else (shiftF 100000000 2000 (newC m) (if 1100 < ex then 1100 else ex)).getD ⟨[], 0⟩
def readC (hx : Bool) (s : Rs) (rest : List UInt8) : Option Dc :=
  if s.sm then
    match tailF hx s.ex rest with
    | some (ex, []) => some (if hx then hexC s.m ex else trimC ⟨s.a.d, s.a.dp + ex⟩)
    | _ => none
  else none
def rs0 : Rs := ⟨⟨[], 0⟩, 0, false, false, 0⟩
def readS (s : ByteArray) : Option Dc := let p := rdF (hexB s) rs0 (if hexB s then s.data.toList.drop 2 else s.data.toList); readC (hexB s) p.1 p.2
theorem rdF_inv {hx : Bool} : ∀ (L : List UInt8) (s : Rs) (i : Nat), RInv s i → RInv (rdF hx s L).1 (i + L.length)
  | [], s, i, h => h
  | q :: r, s, i, h => by
    rw [rdF]
    rcases hs : stp hx s q with _ | s'
    · exact ⟨h.m, h.a, by have := h.l; simp only [List.length_cons]; omega, by have := h.p1; simp only [List.length_cons]; omega, by have := h.p2; simp only [List.length_cons]; omega, by have := h.e1; simp only [List.length_cons]; omega, by have := h.e2; simp only [List.length_cons]; omega⟩
    · have := rdF_inv (hx := hx) r s' (i + 1) (h.stp hs)
      rw [List.length_cons, show i + (r.length + 1) = i + 1 + r.length by omega]
      exact this
theorem rs0_inv : RInv rs0 0 := ⟨by decide, .inl rfl, Nat.le_refl _, by decide, by decide, by decide, by decide⟩
theorem trimC_fit {a : Dc} (h : a.d = [] ∨ Norm a) : (trimC a).d = [] ∨ Norm (trimC a) := by
  rcases h with h | h
  · left
    show trimL a.d = []
    rw [h]; rfl
  · exact .inr h.trim.1
theorem hex_shift {m : Nat} (hm : m ≠ 0) (h64 : m < 18446744073709551616) {ex : Int} (he : -1300 ≤ ex) : ∃ b, shiftF 100000000 2000 (newC m) (if 1100 < ex then 1100 else ex) = some b ∧ Norm b ∧ b.d.length ≤ 200000 := by
  obtain ⟨h1, h2, h3, h4⟩ := newC_norm hm h64
  obtain ⟨b, hb, n1, n2, _⟩ := h1.shift (F := 100000000) (G := 2000) (k := if 1100 < ex then 1100 else ex) (by split <;> omega) (by split <;> omega) (by omega)
  exact ⟨b, hb, n1, by omega⟩
/-- What is read is fit for bits. -/
theorem readS_fit {s : ByteArray} (hs : s.size ≤ 1000) {c : Dc} (h : readS s = some c) : (c.d = [] ∨ Norm c) ∧ c.d.length ≤ 1000000 := by
  have hL : ∀ L : List UInt8, L.length ≤ 1000 → ∀ c, readC (hexB s) (rdF (hexB s) rs0 L).1 (rdF (hexB s) rs0 L).2 = some c → (c.d = [] ∨ Norm c) ∧ c.d.length ≤ 1000000 := by
    intro L hL c h
    have hi := rdF_inv (hx := hexB s) L rs0 0 rs0_inv
    generalize rdF (hexB s) rs0 L = p at h hi
    unfold readC at h
    split at h
    · split at h
      · rename_i ex hT
        cases h
        cases hexB s
        · rw [if_neg (by decide)]
          refine ⟨trimC_fit (a := ⟨p.1.a.d, p.1.a.dp + ex⟩) ?_, ?_⟩
          · rcases hi.a with h | ⟨h1, h2⟩
            · exact .inl h
            · exact .inr ⟨h1, h2⟩
          · have := trimL_len p.1.a.d
            have := hi.l
            show (trimL p.1.a.d).length ≤ _
            omega
        · rw [if_pos rfl]
          unfold hexC
          split
          · exact ⟨.inl rfl, by simp⟩
          · rename_i hc
            obtain ⟨b, hb, n1, n2⟩ := hex_shift (m := p.1.m) (fun h => hc (.inl h)) hi.m (ex := ex) (by
              by_cases h : ex < -1300
              · exact absurd (.inr h) hc
              · omega)
            rw [hb]
            exact ⟨.inr n1, by simp only [Option.getD_some]; omega⟩
      · cases h
    · cases h
  unfold readS at h
  simp only at h
  refine hL _ ?_ c h
  split
  · rw [List.length_drop, ← size_list]; omega
  · rw [← size_list]; omega
theorem readC_no {hx : Bool} {s : Rs} {rest : List UInt8} (h : s.sm = false) : readC hx s rest = none := by rw [readC, h]; rfl
theorem readC_none {hx : Bool} {s : Rs} {rest : List UInt8} (h : tailF hx s.ex rest = none) : readC hx s rest = none := by
  rw [readC, h]
  split <;> rfl
theorem readC_more {hx : Bool} {s : Rs} {rest r : List UInt8} {e : Int} {q : UInt8} (h : tailF hx s.ex rest = some (e, q :: r)) : readC hx s rest = none := by
  rw [readC, h]
  split <;> rfl
theorem readC_some {hx : Bool} {s : Rs} {rest : List UInt8} {e : Int} (h0 : s.sm = true) (h : tailF hx s.ex rest = some (e, [])) : readC hx s rest = some (if hx then hexC s.m e else trimC ⟨s.a.d, s.a.dp + e⟩) := by
  rw [readC, h, h0]; rfl
theorem drop_end {t : ByteArray} {i : Nat} (h : t.size ≤ i) : t.data.toList.drop i = [] := List.drop_eq_nil_of_le (by rw [← size_list]; exact h)
theorem drop_at {L : List UInt8} {j : Nat} {q : UInt8} (h : L[j]? = some q) : L.drop j = q :: L.drop (j + 1) := by
  obtain ⟨h1, h2⟩ := List.getElem?_eq_some_iff.1 h
  rw [List.drop_eq_getElem_cons h1, h2]
/-- The rounds over the digits, in memory. -/
def RdS (w : World) (hx : Bool) (L : List UInt8) (fin : Rs × List UInt8) (i : Nat) (v7 v8 v9 v10 : Value) (W : World) : Prop :=
  ∃ s : Rs, v7 = .int .u64 (s.m : Int) ∧ v8 = .bool s.sm ∧ v9 = .bool s.dt ∧ v10 = .int .i64 s.ex ∧ rdF hx s (L.drop i) = fin ∧ RInv s i ∧ DecN w w.heap.size W w.heap.size s.a
theorem stp_dig {hx : Bool} {s : Rs} {q : UInt8} {d : Nat} (h95 : ¬ q.toNat = 95) (h46 : ¬ (q.toNat = 46 ∧ s.dt = false)) (hd : digV hx q = d) (h16 : d ≠ 16) : stp hx s q = some (eatD hx s d) := by
  rw [stp, if_neg h95, if_neg h46, hd, if_neg h16]
theorem stp_none {hx : Bool} {s : Rs} {q : UInt8} (h95 : ¬ q.toNat = 95) (h46 : ¬ (q.toNat = 46 ∧ s.dt = false)) (hd : digV hx q = 16) : stp hx s q = none := by
  rw [stp, if_neg h95, if_neg h46, hd, if_pos rfl]
theorem rdF_step {hx : Bool} {s s' : Rs} {L : List UInt8} {i : Nat} {q : UInt8} {fin : Rs × List UInt8} (h : rdF hx s (L.drop i) = fin) (hq : L[i]? = some q) (hs : stp hx s q = some s') : rdF hx s' (L.drop (i + 1)) = fin := by
  obtain ⟨h1, h2⟩ := List.getElem?_eq_some_iff.1 hq
  rw [List.drop_eq_getElem_cons h1, h2, rdF, hs] at h
  exact h
theorem rdF_stop {hx : Bool} {s : Rs} {L : List UInt8} {i : Nat} {q : UInt8} {fin : Rs × List UInt8} (h : rdF hx s (L.drop i) = fin) (hq : L[i]? = some q) (hs : stp hx s q = none) : fin = (s, L.drop i) := by
  obtain ⟨h1, h2⟩ := List.getElem?_eq_some_iff.1 hq
  rw [← h, List.drop_eq_getElem_cons h1, h2, rdF, hs]
theorem rdF_end {hx : Bool} {s : Rs} {L : List UInt8} {i : Nat} {fin : Rs × List UInt8} (h : rdF hx s (L.drop i) = fin) (hi : L.length ≤ i) : fin = (s, L.drop i) := by
  rw [← h, List.drop_eq_nil_of_le hi, rdF]
theorem DecAt.lower {w wc W : World} {D : Nat} {v : Value} {l : List Nat} {dp : Int} (h : DecAt wc wc.heap.size W D v l dp) (hb : Below w.heap.size w wc) : DecAt w w.heap.size W D v l dp :=
  have h9 : Below w.heap.size w W := hb.trans (h.2.2.1.1.mono hb.size)
  ⟨h.1, Kd.R_lower h.2.1 hb.size, ⟨h9, fun k hk _ => h9.block k hk⟩, Nat.le_trans hb.size h.2.2.2.1, Nat.le_trans hb.size h.2.2.2.2⟩
/-- The row turned, then stored. -/
theorem DecAt.put {w W W1 : World} {D : Nat} {v v1 : Value} {l l1 : List Nat} {dp : Int} (h : DecAt w w.heap.size W D v l dp) (hg : W.grownBy W1 v.ownBlock) (hb : Below w.heap.size w W1) (hr : (Kd.int .u8).R 5 W1 w.heap.size (fun k => k ≠ D) v1 (ci l1)) : DecAt w w.heap.size (W1.setCell ⟨D, 0, none⟩ v1) D v1 l1 dp :=
  ⟨blk_put (blk_grown h.1 hg (fun e => h.2.1.1 D e.symm rfl)) 0 _ rfl, Kd.R_far (p := ⟨D, 0, none⟩) hr (fun _ hk => hk) _,
    ⟨hb.setCell (p := ⟨D, 0, none⟩) h.2.2.2.1 _, fun k hk hD => (Below.heap_setCell W1 ⟨D, 0, none⟩ v1 k hD).trans (hb.block k hk)⟩, h.2.2.2.1, by have := hg.size; have := h.2.2.2.2; simp; omega⟩
end Go.Proofs.YtnmochachiieaaaDoor.Hand
