/- What ParseFloat and IsNumeric answer of a text with a letter that no number has, and of a digit. -/
import Derived.Test.YtmadlpclnlbpgaaDoorHandReadA
import Derived.Test.YtmadlpclnlbpgaaDoorHandReadB
import Derived.Deep.QuietTactic
import Derived.BigQuiet
import Derived.RegionTactic
namespace Go.Proofs.YtmadlpclnlbpgaaDoor.Hand
open Go.RowKit Go.Proofs.YtmadlpclnlbpgaaDoorW.PrintWords Go.Proofs.YtmadlpclnlbpgaaDoor.Base
set_option linter.unusedVariables false
set_option linter.unusedSimpArgs false

theorem read_no (s : ByteArray) (w : World) (k : Nat) (c : UInt8) (hk : s.data.toList[k]? = some c) (hb : BadL c) (hs : s.size ≤ 1000000) :
    Calls Tryd.prog 36 #[.string s] w fun e w' => e = .returned (.tuple #[.pointer none, .bool false]) ∧ Below w.heap.size w w' := by
  cases h : hexB s with
  | false => exact read_no0 s w k c hk hb hs h
  | true => exact read_no1 s w k c hk hb hs h

set_option maxHeartbeats 4000000 in
theorem form64 (w : World) : Calls Tryd.prog 34 #[.int .i64 64] w fun e w' => e = .returned (.agg #[.int .i64 52, .int .i64 11, .int .i64 (-1023)]) ∧ Below w.heap.size w w' := by
  go_enter Tryd.func34, Tryd.ntmps34
  go_wp2
  go_returns
  exact ⟨rfl, (Below.refl _ _).alloc (Nat.le_refl _) _⟩
set_option maxHeartbeats 4000000 in
theorem fail_any (f s m : ByteArray) (w : World) : Calls Tryd.prog 38 #[.string f, .string s, .string m] w fun e w' => (∃ b : Nat, e = .returned (.iface 56 (.pointer (some ⟨b, 0, none⟩)))) ∧ Below w.heap.size w w' := by
  go_enter Tryd.func38, Tryd.ntmps38
  go_wp2
  go_ret
  exact ⟨⟨_, rfl⟩, (Below.refl _ _).alloc (Nat.le_refl _) _⟩
theorem bad_fold {c : UInt8} (h : badL c = true) : foldB c ≠ 110 ∧ foldB c ≠ 97 ∧ foldB c ≠ 105 ∧ foldB c ≠ 102 ∧ foldB c ≠ 116 ∧ foldB c ≠ 121 := by
  have : ∀ n : Fin 256, badL (UInt8.ofNat n.val) = true → foldB (UInt8.ofNat n.val) ≠ 110 ∧ foldB (UInt8.ofNat n.val) ≠ 97 ∧ foldB (UInt8.ofNat n.val) ≠ 105 ∧ foldB (UInt8.ofNat n.val) ≠ 102 ∧ foldB (UInt8.ofNat n.val) ≠ 116 ∧ foldB (UInt8.ofNat n.val) ≠ 121 := by decide +kernel
  have := this ⟨c.toNat, c.toNat_lt⟩
  simp only [UInt8.ofNat_toNat] at this
  exact this h
theorem fold_nan (s : ByteArray) (w : World) (k : Nat) (c : UInt8) (hk : s.data.toList[k]? = some c) (hb : badL c = true) (hs : s.size ≤ 1000000) :
    Calls Tryd.prog 31 #[.string s, .string ⟨#[110, 97, 110]⟩] w fun e w' => e = .returned (.bool false) ∧ w = w' := by
  obtain ⟨f1, f2, f3, f4, f5, f6⟩ := bad_fold hb
  exact fold_no s _ w k c hk (fun b h e => by
    have h : b = 110 ∨ b = 97 ∨ b = 110 := by simpa using h
    rcases h with h | h | h <;> simp_all) hs
theorem fold_inf (s : ByteArray) (w : World) (k : Nat) (c : UInt8) (hk : s.data.toList[k]? = some c) (hb : badL c = true) (hs : s.size ≤ 1000000) :
    Calls Tryd.prog 31 #[.string s, .string ⟨#[105, 110, 102]⟩] w fun e w' => e = .returned (.bool false) ∧ w = w' := by
  obtain ⟨f1, f2, f3, f4, f5, f6⟩ := bad_fold hb
  exact fold_no s _ w k c hk (fun b h e => by
    have h : b = 105 ∨ b = 110 ∨ b = 102 := by simpa using h
    rcases h with h | h | h <;> simp_all) hs
theorem fold_infinity (s : ByteArray) (w : World) (k : Nat) (c : UInt8) (hk : s.data.toList[k]? = some c) (hb : badL c = true) (hs : s.size ≤ 1000000) :
    Calls Tryd.prog 31 #[.string s, .string ⟨#[105, 110, 102, 105, 110, 105, 116, 121]⟩] w fun e w' => e = .returned (.bool false) ∧ w = w' := by
  obtain ⟨f1, f2, f3, f4, f5, f6⟩ := bad_fold hb
  exact fold_no s _ w k c hk (fun b h e => by
    have h : b = 105 ∨ b = 110 ∨ b = 102 ∨ b = 105 ∨ b = 110 ∨ b = 105 ∨ b = 116 ∨ b = 121 := by simpa using h
    rcases h with h | h | h | h | h | h | h | h <;> simp_all) hs

set_option maxHeartbeats 8000000 in
set_option maxRecDepth 100000 in
theorem parse_no (s : ByteArray) (w : World) (k : Nat) (c : UInt8) (hk : s.data.toList[k]? = some c) (hb : badL c = true) (hs : s.size ≤ 1000000) :
    Calls Tryd.prog 19 #[.string s, .int .i64 64] w fun e w' => (∃ (x : Value) (b : Nat), e = .returned (.tuple #[x, .iface 56 (.pointer (some ⟨b, 0, none⟩))])) ∧ Below w.heap.size w w' := by
  obtain ⟨a, r, hl⟩ : ∃ a r, s.data.toList = a :: r := by
    cases hx : s.data.toList with
    | nil => rw [hx] at hk; simp at hk
    | cons a r => exact ⟨a, r, rfl⟩
  have hz : 0 < s.size := by rw [size_list, hl]; simp
  have ha : s[0]'hz = a := by
    have h1 : s.data.toList[0]? = some a := by rw [hl]; rfl
    rw [List.getElem?_eq_getElem (by rw [← size_list]; exact hz)] at h1
    exact Option.some.inj h1
  have hem : s.toList.isEmpty = false := by rw [toList_data, hl]; rfl
  have C1 := Aside0.mk (fun w => fold_nan s w k c hk hb hs)
  have hsg : (a.toNat = 45 ∨ a.toNat = 43) → ∃ k' : Nat, (s.extract 1 s.size).data.toList[k']? = some c := by
    intro h
    cases k with
    | zero =>
      exfalso
      have : a = c := by rw [hl] at hk; simpa using hk
      have h2 := (bad_of hb).n43
      have h3 := (bad_of hb).n45
      rw [← this] at h2 h3
      omega
    | succ k => exact ⟨k, by rw [rest_list, hl]; rw [hl] at hk; simpa using hk⟩
  have hes : (s.extract 1 s.size).size ≤ 1000000 := by rw [size_list, rest_list, List.length_drop, ← size_list]; omega
  obtain ⟨t, k2, ht, hk2, hts⟩ : ∃ (t : ByteArray) (k2 : Nat), t = (if a.toNat = 45 ∨ a.toNat = 43 then s.extract 1 s.size else s) ∧ t.data.toList[k2]? = some c ∧ t.size ≤ 1000000 := by
    by_cases h : a.toNat = 45 ∨ a.toNat = 43
    · obtain ⟨k', h'⟩ := hsg h
      exact ⟨_, k', rfl, by rw [if_pos h]; exact h', by rw [if_pos h]; exact hes⟩
    · exact ⟨_, k, rfl, by rw [if_neg h]; exact hk, by rw [if_neg h]; exact hs⟩
  have C2 := Aside0.mk (fun w => fold_inf t w k2 c hk2 hb hts)
  have C3 := Aside0.mk (fun w => fold_infinity t w k2 c hk2 hb hts)
  have C4 := Aside0.mk (fun w => read_no t w k2 c hk2 (bad_of hb) hts)
  have HT := Aside0.mk ht
  have ha256 := a.toNat_lt
  clear hk hb hl hsg hes hk2 ht
  go_enter Tryd.func19, Tryd.ntmps19
  go_upto_region 6 with ((go_at_call 31; with_reducible refine (C1.out _).mono ?_); rintro e w' ⟨rfl, rfl⟩)
  go_cut [33] from 22 to 22 (fun v33 wc => ∃ sg : Bool, v33 = .bool sg ∧ Aside0 (sg = true ↔ a.toNat = 45 ∨ a.toNat = 43) ∧ w = wc)
  case first =>
    by_cases h43 : a.toNat = 43
    · have e1 : ((a.toNat : Int) == 43) = true := beq_iff_eq.mpr (by omega)
      have H := Aside0.mk h43
      clear h43
      go_wp2
      go_meet
      case rel => exact ⟨true, rfl, ⟨fun _ => Or.inr H.out, fun _ => rfl⟩, rfl⟩
    · have e1 : ((a.toNat : Int) == 43) = false := beq_eq_false_iff_ne.mpr (by omega)
      by_cases h45 : a.toNat = 45
      · have e2 : ((a.toNat : Int) == 45) = true := beq_iff_eq.mpr (by omega)
        have H := Aside0.mk h45
        clear h43 h45
        go_wp2
        go_meet
        case rel => exact ⟨true, rfl, ⟨fun _ => Or.inl H.out, fun _ => rfl⟩, rfl⟩
      · have e2 : ((a.toNat : Int) == 45) = false := beq_eq_false_iff_ne.mpr (by omega)
        have H := Aside0.mk (And.intro h43 h45)
        clear h43 h45
        go_wp2
        go_meet
        case rel => exact ⟨false, rfl, ⟨fun h => (by cases h), fun h => (h.elim H.out.2 H.out.1).elim⟩, rfl⟩
  case rest =>
  obtain ⟨sg, rfl, HSG, rfl⟩ := hcut
  go_upto_if 33 with (fail)
  go_cut [6, 7] from 34 to 34 (fun v6 v7 wc => ∃ ng : Bool, v6 = .string t ∧ v7 = .bool ng ∧ Aside0 (Below w.heap.size w wc))
  case first =>
    cases sg
    · have ht : t = s := by rw [HT.out, if_neg (fun h => by have := HSG.out.2 h; cases this)]
      have HTT := Aside0.mk ht
      clear ht
      go_wp2
      go_meet
      case rel => exact ⟨_, by rw [HTT.out], rfl, ⟨Below.refl _ _⟩⟩
    · have ht : t = s.extract 1 s.size := by rw [HT.out, if_pos (HSG.out.1 rfl)]
      have g1 : (1 : Int) ≤ (s.size : Int) := by omega
      have HTT := Aside0.mk ht
      clear ht
      go_wp2
      go_region
      all_goals
        go_wp2
        go_meet
        case rel => exact ⟨_, by rw [HTT.out], rfl, ⟨below_drew (Below.refl _ _)⟩⟩
  case rest =>
    obtain ⟨ng, rfl, rfl, HB⟩ := hcut
    have hsz := HB.out.size
    cases ng
    all_goals
      go_wp2_with (first
        | ((go_at_call 34; with_reducible refine (form64 _).mono ?_); rintro e w1 ⟨rfl, h1⟩; have H1 := Aside0.mk h1; have hz1 := h1.size; clear h1)
        | ((go_at_call 31; first | with_reducible refine (C2.out _).mono ?_ | with_reducible refine (C3.out _).mono ?_); rintro e w' ⟨rfl, rfl⟩)
        | ((go_at_call 36; with_reducible refine (C4.out _).mono ?_); rintro e w2 ⟨rfl, h2⟩; have H2 := Aside0.mk h2; clear h2)
        | ((go_at_call 38; with_reducible refine (fail_any _ _ _ _).mono ?_); rintro e w3 ⟨⟨b3, rfl⟩, h3⟩))
      go_ret2
      refine ⟨⟨_, _, rfl⟩, ?_⟩
      have a1 := HB.out.trans (H1.out.mono HB.out.size)
      have a2 := (a1.alloc a1.size _).trans (H2.out.mono (by have := a1.size; simp; omega))
      exact a2.trans (h3.mono a2.size)
end Go.Proofs.YtmadlpclnlbpgaaDoor.Hand
