/- What tw.IsNumeric answers: no, where a letter stands in the text that no number has; yes, at a single digit. -/
import Derived.Test.YtmadlpclnlbpgaaDoorHandTitle
import Derived.Laws.BitsAllLaws
namespace Go.Proofs.YtmadlpclnlbpgaaDoor.Hand
open Go.RowKit Go.Proofs.YtmadlpclnlbpgaaDoorW.PrintWords Go.Proofs.YtmadlpclnlbpgaaDoor.Base
set_option linter.unusedVariables false
set_option linter.unusedSimpArgs false

def lowB (c : UInt8) : UInt8 := c ||| 32
theorem lowB_nat (c : UInt8) : bits .or .u8 (c.toNat : Int) 32 = ((lowB c).toNat : Int) := by
  have h := u8_or_nat c.toNat 32 c.toNat_lt (by decide)
  have e : (lowB c).toNat = (c.toNat ||| 32) := by unfold lowB; rw [UInt8.toNat_or]; rfl
  rw [e]
  exact h
theorem lower_any (c : UInt8) (w : World) : Calls Tryd.prog 55 #[.int .u8 (c.toNat : Int)] w fun e w' => e = .returned (.int .u8 ((lowB c).toNat : Int)) ∧ w = w' := by
  go_enter Tryd.func55, Tryd.ntmps55
  go_wp2
  go_ret
  exact ⟨congrArg (fun x => Ending.returned (.int .u8 x)) (lowB_nat c), rfl⟩
theorem lower_95 (w : World) : Calls Tryd.prog 55 #[.int .u8 95] w fun e w' => e = .returned (.int .u8 127) ∧ w = w' := lower_any 95 w
theorem lower_46 (w : World) : Calls Tryd.prog 55 #[.int .u8 46] w fun e w' => e = .returned (.int .u8 46) ∧ w = w' := lower_any 46 w
/-- The byte as fold compares it. -/
def foldB (c : UInt8) : UInt8 := if 65 ≤ c.toNat ∧ c.toNat ≤ 90 then c + 32 else c
theorem foldB_hi {c : UInt8} (h1 : 65 ≤ c.toNat) (h2 : c.toNat ≤ 90) : ((foldB c).toNat : Int) = (c.toNat : Int) + 32 := by
  have : ∀ n : Fin 256, 65 ≤ n.val → n.val ≤ 90 → ((foldB (UInt8.ofNat n.val)).toNat : Int) = ((UInt8.ofNat n.val).toNat : Int) + 32 := by decide +kernel
  have := this ⟨c.toNat, c.toNat_lt⟩ h1 h2
  simpa using this
theorem foldB_lo {c : UInt8} (h : ¬ (65 ≤ c.toNat ∧ c.toNat ≤ 90)) : foldB c = c := by unfold foldB; rw [if_neg h]

set_option maxHeartbeats 4000000 in
theorem fold_no (s t : ByteArray) (w : World) (k : Nat) (c : UInt8) (hk : s.data.toList[k]? = some c) (hb : ∀ b ∈ t.data.toList, b ≠ foldB c) (hs : s.size ≤ 1000000) :
    Calls Tryd.prog 31 #[.string s, .string t] w fun e w' => e = .returned (.bool false) ∧ w = w' := by
  by_cases hz : s.size = t.size
  · have HK := Aside0.mk hk
    have HB := Aside0.mk hb
    have e1 : ((s.size : Int) == (t.size : Int)) = true := beq_iff_eq.mpr (by omega)
    have e2 : ((s.size : Int) != (t.size : Int)) = false := by rw [bne, e1]; rfl
    have hks : k < s.size := by
      rcases Nat.lt_or_ge k s.data.toList.length with h | h
      · rw [size_list]; exact h
      · rw [List.getElem?_eq_none h] at hk; cases hk
    have HZ := Aside0.mk hz
    clear hk hb hz
    go_enter Tryd.func31, Tryd.ntmps31
    go_wp2
    go_loop [5] (fun v5 => ∃ i : Nat, v5 = .int .i64 (i : Int) ∧ i ≤ k) (fun v5 => s.size - (intOf v5).toNat)
    case atStart => exact ⟨0, rfl, Nat.zero_le _⟩
    case round =>
      obtain ⟨i, rfl, hi⟩ := hrel
      have hlt : i < s.size := by omega
      have hlt2 : i < t.size := by have := HZ.out; omega
      obtain ⟨q, hq⟩ : ∃ q, s[i]'hlt = q := ⟨_, rfl⟩
      obtain ⟨p, hp⟩ : ∃ p, t[i]'hlt2 = p := ⟨_, rfl⟩
      have hq256 := q.toNat_lt
      have hp256 := p.toNat_lt
      have HQ : Aside0 (i = k → p ≠ foldB q) := ⟨fun e => by
        have h1 : s.data.toList[i]? = some q := by rw [List.getElem?_eq_getElem (by rw [← size_list]; exact hlt)]; exact congrArg some hq
        have h2 : p ∈ t.data.toList := by rw [← hp]; exact Array.getElem_mem_toList (xs := t.data) hlt2
        have : q = c := Option.some.inj (h1.symm.trans (by rw [e]; exact HK.out))
        rw [this]
        exact HB.out p h2⟩
      have HN : Aside0 (∀ x : Int, ((foldB q).toNat : Int) = x → (x != (p.toNat : Int)) = false → i + 1 ≤ k) := ⟨fun x hx hn => by
        have hx2 : ((foldB q).toNat : Int) = (p.toNat : Int) := by rw [hx]; simpa using hn
        have : p = foldB q := UInt8.toNat_inj.1 (by omega)
        rcases Nat.lt_or_ge i k with h | h
        · exact h
        · exact absurd this (HQ.out (by omega))⟩
      by_cases h1 : (65 : Int) ≤ (q.toNat : Int)
      · by_cases h2 : (q.toNat : Int) ≤ 90
        · have hf := foldB_hi (c := q) (by omega) (by omega)
          have HF := Aside0.mk hf
          clear hf
          by_cases h3 : ((q.toNat : Int) + 32 != (p.toNat : Int)) = true
          · go_wp2
            go_ret
            exact ⟨rfl, rfl⟩
          · have h4 : ((q.toNat : Int) + 32 != (p.toNat : Int)) = false := by simpa using h3
            have h5 := HN.out _ HF.out h4
            clear h3
            go_wp2
            go_round
            case rel => exact ⟨i + 1, by go_num, h5⟩
            case measure => simp [intOf]; omega
        · have HF := Aside0.mk (congrArg (fun z : UInt8 => (z.toNat : Int)) (foldB_lo (c := q) (by omega)))
          by_cases h3 : ((q.toNat : Int) != (p.toNat : Int)) = true
          · go_wp2
            go_ret
            exact ⟨rfl, rfl⟩
          · have h4 : ((q.toNat : Int) != (p.toNat : Int)) = false := by simpa using h3
            have h5 := HN.out _ HF.out h4
            clear h3
            go_wp2
            go_round
            case rel => exact ⟨i + 1, by go_num, h5⟩
            case measure => simp [intOf]; omega
      · have HF := Aside0.mk (congrArg (fun z : UInt8 => (z.toNat : Int)) (foldB_lo (c := q) (by omega)))
        by_cases h3 : ((q.toNat : Int) != (p.toNat : Int)) = true
        · go_wp2
          go_ret
          exact ⟨rfl, rfl⟩
        · have h4 : ((q.toNat : Int) != (p.toNat : Int)) = false := by simpa using h3
          have h5 := HN.out _ HF.out h4
          clear h3
          go_wp2
          go_round
          case rel => exact ⟨i + 1, by go_num, h5⟩
          case measure => simp [intOf]; omega
  · have e1 : ((s.size : Int) == (t.size : Int)) = false := beq_eq_false_iff_ne.mpr (by omega)
    have e2 : ((s.size : Int) != (t.size : Int)) = true := by rw [bne, e1]; rfl
    clear hz hk hb
    go_enter Tryd.func31, Tryd.ntmps31
    go_wp2
    go_ret
    exact ⟨rfl, rfl⟩

/-- 'invalid syntax', 'value out of range'. -/
abbrev ErrS : ByteArray := ⟨#[105, 110, 118, 97, 108, 105, 100, 32, 115, 121, 110, 116, 97, 120]⟩
abbrev ErrR : ByteArray := ⟨#[118, 97, 108, 117, 101, 32, 111, 117, 116, 32, 111, 102, 32, 114, 97, 110, 103, 101]⟩
/-- What parseUint hands back with an error. -/
def NoUint (e : Ending) : Prop := e = .returned (.tuple #[.int .u64 0, .iface 73 (.string ErrS)]) ∨ e = .returned (.tuple #[.int .u64 18446744073709551615, .iface 73 (.string ErrR)])
def notDig (c : UInt8) : Bool := decide (c.toNat < 48) || decide (57 < c.toNat)

set_option maxHeartbeats 8000000 in
set_option maxRecDepth 100000 in
theorem uint_no (s : ByteArray) (w : World) (k : Nat) (c : UInt8) (hk : s.data.toList[k]? = some c) (hb : notDig c = true) (hs : s.size ≤ 1000000) :
    Calls Tryd.prog 53 #[.string s, .int .i64 10, .int .i64 0] w fun e w' => NoUint e ∧ Below w.heap.size w w' := by
  obtain ⟨cap, w1, hc1, hR, hb1, hcap⟩ := to_bytes (P := Tryd.prog) w 9 29 5 s Tryd.underlying9 Tryd.underlying29 Tryd.underlying5
  obtain ⟨l, hl⟩ : ∃ l, s.data.toList = l := ⟨_, rfl⟩
  rw [hl] at hc1 hR hcap hk
  have hkl : k < l.length := by
    rcases Nat.lt_or_ge k l.length with h | h
    · exact h
    · rw [List.getElem?_eq_none h] at hk; cases hk
  have hln : l.length ≤ 1000000 := by rw [← hl, ← size_list]; exact hs
  have HK := Aside0.mk hk
  have HB := Aside0.mk hb
  have HR := Aside0.mk hR
  have HB1 := Aside0.mk hb1
  have HL := Aside0.mk hl
  have HC := Aside0.mk hcap
  have hem : s.toList.isEmpty = false := by rw [toList_data, hl]; cases l with | nil => simp at hkl | cons a b => rfl
  clear hk hb hR hb1 hl hcap
  go_enter Tryd.func53, Tryd.ntmps53
  go_wp2
  obtain ⟨mx, hmx, hm2⟩ : ∃ mx : Int, IntKind.u64.wrap (IntKind.u64.wrap 18446744073709551616 - 1) = mx ∧ mx = 18446744073709551615 := ⟨_, rfl, by kernel_rfl⟩
  rw [hmx]
  have HMX := Aside0.mk hm2
  have m0 : 1000 ≤ mx := by rw [hm2]; decide
  clear hmx hm2 hc1 hem
  have HM := Aside0.mk (show Rw w1 w.heap.size 5 .u8 (codes l) ∧ Below w.heap.size w w1 from ⟨HR.out, HB1.out⟩)
  go_loopg [11, 12, 88] l.length (fun kq v11 v12 v88 w' => ∃ (i : Nat) (n : Int), v11 = .int .u64 n ∧ v12 = .bool false ∧ v88 = .int .i64 (i : Int) ∧ Aside0 (i + kq = l.length) ∧ Aside0 (i ≤ k) ∧ Aside0 (Rw w' w.heap.size 5 .u8 (codes l) ∧ Below w.heap.size w w'))
  case atStart => exact ⟨0, 0, rfl, rfl, rfl, ⟨by omega⟩, ⟨Nat.zero_le _⟩, HM⟩
  case round =>
    clear HM
    obtain ⟨i, n, rfl, rfl, rfl, HI, HIK, HM⟩ := hrel
    have hi : i < l.length := by have := HIK.out; omega
    have p1 : decide ((i : Int) < (l.length : Int)) = true := decide_eq_true (by omega)
    obtain ⟨q, hq⟩ : ∃ q, l[i]? = some q := ⟨l[i], List.getElem?_eq_getElem hi⟩
    have hcb : wr.cell? ⟨w.heap.size, i, none⟩ = some (.int .u8 (q.toNat : Int)) := HM.out.1.cell i _ (codes_at l i q hq)
    have HQ : Aside0 (i = k → notDig q = true) := ⟨fun e => by
      have : q = c := Option.some.inj (hq.symm.trans (by rw [e]; exact HK.out))
      rw [this]; exact HB.out⟩
    have hq256 := q.toNat_lt
    have HQI := Aside0.mk hq
    clear hq
    by_cases h1 : (48 : Int) ≤ (q.toNat : Int)
    · by_cases h2 : (q.toNat : Int) ≤ 57
      · have hik : i + 1 ≤ k := by
          have h3 := HIK.out
          rcases Nat.lt_or_ge i k with h | h
          · exact h
          · have := HQ.out (by omega)
            unfold notDig at this
            simp at this
            omega
        go_wp2
        · go_ret2
          exact ⟨Or.inr (by rw [HMX.out]; rfl), HM.out.2⟩
        · go_roundg (gk - 1)
          case measure => have := HI.out; omega
          case rel => exact ⟨i + 1, _, rfl, rfl, by go_num, ⟨by have := HI.out; omega⟩, ⟨hik⟩, HM⟩
      · have hlow := (lowB q).toNat_lt
        go_wp2_with ((go_at_call 55; first | (with_reducible refine (lower_95 _).mono ?_) | (with_reducible refine (lower_any q _).mono ?_)); rintro e w' ⟨rfl, rfl⟩)
        all_goals
          go_ret2
          exact ⟨Or.inl rfl, HM.out.2⟩
    · have hlow := (lowB q).toNat_lt
      go_wp2_with ((go_at_call 55; first | (with_reducible refine (lower_95 _).mono ?_) | (with_reducible refine (lower_any q _).mono ?_)); rintro e w' ⟨rfl, rfl⟩)
      all_goals
        go_ret2
        exact ⟨Or.inl rfl, HM.out.2⟩

theorem ne_SR (w : World) : (binOp .neq 38 (.iface 73 (.string { data := #[105, 110, 118, 97, 108, 105, 100, 32, 115, 121, 110, 116, 97, 120] })) (.iface 73 (.string { data := #[118, 97, 108, 117, 101, 32, 111, 117, 116, 32, 111, 102, 32, 114, 97, 110, 103, 101] }))).run Tryd.prog w = .ok (.bool true) w := by kernel_rfl
theorem ne_RR (w : World) : (binOp .neq 38 (.iface 73 (.string { data := #[118, 97, 108, 117, 101, 32, 111, 117, 116, 32, 111, 102, 32, 114, 97, 110, 103, 101] })) (.iface 73 (.string { data := #[118, 97, 108, 117, 101, 32, 111, 117, 116, 32, 111, 102, 32, 114, 97, 110, 103, 101] }))).run Tryd.prog w = .ok (.bool false) w := by kernel_rfl
attribute [local go_sem] ne_SR ne_RR
def NoInt (e : Ending) : Prop := ∃ (x : Int) (m : ByteArray), e = .returned (.tuple #[.int .i64 x, .iface 73 (.string m)])
/-- No digit, no sign. -/
def badC (c : UInt8) : Bool := notDig c && (c != 43) && (c != 45)
theorem rest_list (s : ByteArray) : (s.extract 1 s.size).data.toList = s.data.toList.drop 1 := by
  rw [ByteArray.data_extract, Array.toList_extract]
  rw [List.extract_eq_take_drop, List.take_of_length_le (by rw [List.length_drop]; have := size_list s; omega)]
theorem first_ne {a : UInt8} {n : Nat} (h : a.toNat ≠ n) : ((a.toNat : Int) == (n : Int)) = false := beq_eq_false_iff_ne.mpr (by omega)

set_option maxHeartbeats 8000000 in
set_option maxRecDepth 100000 in
theorem int_no (s : ByteArray) (w : World) (k : Nat) (c : UInt8) (hk : s.data.toList[k]? = some c) (hb : badC c = true) (hs : s.size ≤ 1000000) :
    Calls Tryd.prog 30 #[.string s, .int .i64 10, .int .i64 0] w fun e w' => NoInt e ∧ Below w.heap.size w w' := by
  have hb0 := hb
  unfold badC at hb0
  simp only [Bool.and_eq_true, bne_iff_ne, ne_eq] at hb0
  obtain ⟨⟨hd, h43⟩, h45⟩ := hb0
  obtain ⟨a, r, hl⟩ : ∃ a r, s.data.toList = a :: r := by
    cases hx : s.data.toList with
    | nil => rw [hx] at hk; simp at hk
    | cons a r => exact ⟨a, r, rfl⟩
  have hz : 0 < s.size := by rw [size_list, hl]; simp
  have ha : s[0]'hz = a := by
    have h1 : s.data.toList[0]? = some a := by rw [hl]; rfl
    rw [List.getElem?_eq_getElem (by rw [← size_list]; exact hz)] at h1
    exact Option.some.inj h1
  have hem : s.toList.isEmpty = false := by rw [toList_data, hl]; rfl
  have C0 := Aside0.mk (uint_no s w k c hk hd hs)
  have hsg : (a.toNat = 45 ∨ a.toNat = 43) → ∃ k' : Nat, (s.extract 1 s.size).data.toList[k']? = some c := by
    intro h
    cases k with
    | zero =>
      exfalso
      have : a = c := by rw [hl] at hk; simpa using hk
      rcases h with h | h
      · exact h45 (UInt8.toNat_inj.1 (by rw [← this, h]; rfl))
      · exact h43 (UInt8.toNat_inj.1 (by rw [← this, h]; rfl))
    | succ k => exact ⟨k, by rw [rest_list, hl]; rw [hl] at hk; simpa using hk⟩
  have C1 : Aside0 ((a.toNat = 45 ∨ a.toNat = 43) → Calls Tryd.prog 53 #[.string (s.extract 1 s.size), .int .i64 10, .int .i64 0] w fun e w' => NoUint e ∧ Below w.heap.size w w') := ⟨fun h => by
    obtain ⟨k1, h'⟩ := hsg h
    exact uint_no _ w k1 c h' hd (by rw [size_list, rest_list, List.length_drop, ← size_list]; omega)⟩
  have ha256 := a.toNat_lt
  clear hk hb hd h43 h45 hl hsg
  by_cases h1 : a.toNat = 45
  · have e1 : ((a.toNat : Int) == 45) = true := beq_iff_eq.mpr (by omega)
    have D := Aside0.mk (C1.out (Or.inl h1))
    clear h1
    go_enter Tryd.func30, Tryd.ntmps30
    go_wp2_with ((go_at_call 53; with_reducible refine D.out.mono ?_); rintro e w' ⟨he | he, h'⟩ <;> subst he)
    all_goals
      go_ret2
      exact ⟨⟨_, _, rfl⟩, h'⟩
  · have e0 : ((a.toNat : Int) == 45) = false := first_ne (n := 45) h1
    by_cases h2 : a.toNat = 43
    · have e1 : ((a.toNat : Int) == 43) = true := beq_iff_eq.mpr (by omega)
      have D := Aside0.mk (C1.out (Or.inr h2))
      clear h2
      clear h1
      go_enter Tryd.func30, Tryd.ntmps30
      go_wp2_with ((go_at_call 53; with_reducible refine D.out.mono ?_); rintro e w' ⟨he | he, h'⟩ <;> subst he)
      all_goals
        go_ret2
        exact ⟨⟨_, _, rfl⟩, h'⟩
    · have e1 : ((a.toNat : Int) == 43) = false := first_ne (n := 43) h2
      have D := C0
      clear h2
      clear h1
      go_enter Tryd.func30, Tryd.ntmps30
      go_wp2_with ((go_at_call 53; with_reducible refine D.out.mono ?_); rintro e w' ⟨he | he, h'⟩ <;> subst he)
      all_goals
        go_ret2
        exact ⟨⟨_, _, rfl⟩, h'⟩

set_option maxHeartbeats 8000000 in
set_option maxRecDepth 100000 in
theorem atoi_no (s : ByteArray) (w : World) (k : Nat) (c : UInt8) (hk : s.data.toList[k]? = some c) (hb : badC c = true) (hs : s.size ≤ 1000000) :
    Calls Tryd.prog 18 #[.string s] w fun e w' => (∃ (x : Int) (b : Nat), e = .returned (.tuple #[.int .i64 x, .iface 56 (.pointer (some ⟨b, 0, none⟩))])) ∧ Below w.heap.size w w' := by
  have D := Aside0.mk (int_no s w k c hk hb hs)
  clear hk hb
  go_enter Tryd.func18, Tryd.ntmps18
  go_wp2_with ((go_at_call 30; with_reducible refine D.out.mono ?_); rintro e w' ⟨⟨x, m, rfl⟩, h'⟩)
  go_ret2
  exact ⟨⟨_, _, rfl⟩, h'.alloc h'.size _⟩
end Go.Proofs.YtmadlpclnlbpgaaDoor.Hand
