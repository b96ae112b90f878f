/- What tw.Title and spec.TwUpper compute on plain text. -/
import Derived.Test.YtmadlpclnlbpgaaDoorShelf
import Derived.Test.YtmadlpclnlbpgaaDoorHandRw
import Derived.Test.YtmadlpclnlbpgaaDoorHandTitleLaw
import Derived.Lib.AppendIntMem
import Derived.Lib.LaidU8
namespace Go.Proofs.YtmadlpclnlbpgaaDoor.Hand
open Go.RowKit Go.Proofs.YtmadlpclnlbpgaaDoorW.PrintWords Go.Proofs.YtmadlpclnlbpgaaDoor.Base
set_option linter.unusedVariables false
set_option linter.unusedSimpArgs false

/-- The listed table holds what its initialiser lays, whatever is done at blocks that the call makes. -/
def LaidW (w : World) : Prop := Lib.TabBelow Tryd.prog w.heap.size w "strings.asciiSpace" .u8 Lib.asciiSpaceTab
theorem LaidW.on {w W : World} (h : LaidW w) (hb : Below w.heap.size w W) : LaidW W := fun w' h' => h w' (hb.trans (h'.mono hb.size))
theorem LaidW.of {w : World} (h : Lib.TabIs Tryd.prog w "strings.asciiSpace" .u8 Lib.asciiSpaceTab) : LaidW w := Lib.tabBelow_of_tabIs h
theorem LaidW.of_laid {W : World} {l : List (String × DataW Unit)} (h : laidMet Tryd.prog l W) (hm : ("strings.asciiSpace", Lib.tabData .u8 Lib.asciiSpaceTab) ∈ l) : LaidW W := by
  obtain ⟨g, t, cs, fuel, p, hg, ht, hv, hd⟩ := Lib.laidMet.reads h hm
  have hg0 : Tryd.prog.globalNamed "strings.asciiSpace" = some 0 := by kernel_rfl
  obtain rfl := Option.some.inj (hg0.symm.trans hg)
  have ht0 : (Tryd.prog.globals[0]?).map (·.type) = some 45 := by kernel_rfl
  obtain rfl := Option.some.inj (ht0.symm.trans ht)
  refine LaidW.of ?_
  unfold Lib.TabIs
  rw [hv, ← Lib.cells_of_tab (n := 256) Tryd.underlying45 Tryd.underlying5 (by kernel_rfl) (by kernel_rfl) hd]

theorem isNos (q : UInt8) (w : World) : Calls Tryd.prog 15 #[.int .i32 (q.toNat : Int)] w fun e w' => e = .returned (.bool (nos q)) ∧ w = w' := by
  have hb : q.toNat < 256 := q.toNat_lt
  have h32 : (q == 32) = decide ((q.toNat : Int) = 32) := by
    rw [Bool.eq_iff_iff, beq_iff_eq, decide_eq_true_iff, ← UInt8.toNat_inj]
    show q.toNat = 32 ↔ _
    omega
  by_cases h1 : (48 : Int) ≤ (q.toNat : Int)
  · by_cases h2 : (q.toNat : Int) ≤ 57
    · have e : nos q = true := by unfold nos; rw [decide_eq_true (by omega), decide_eq_true (by omega)]; rfl
      rw [e]
      clear h32 e
      go_enter Tryd.func15, Tryd.ntmps15
      go_wp2
      go_ret
      exact ⟨rfl, rfl⟩
    · have e : nos q = false := by unfold nos; rw [decide_eq_false (p := q.toNat ≤ 57) (by omega), h32, decide_eq_false (p := (q.toNat : Int) = 32) (by omega)]; simp
      have h3 : ((q.toNat : Int) == 32) = false := beq_eq_false_iff_ne.mpr (by omega)
      rw [e]
      clear h32 e
      go_enter Tryd.func15, Tryd.ntmps15
      go_wp2
      go_ret
      exact ⟨rfl, rfl⟩
  · by_cases h4 : (q.toNat : Int) = 32
    · have e : nos q = true := by unfold nos; rw [h32, decide_eq_true h4]; simp
      have h3 : ((q.toNat : Int) == 32) = true := beq_iff_eq.mpr h4
      rw [e]
      clear h32 e h4
      go_enter Tryd.func15, Tryd.ntmps15
      go_wp2
      go_ret
      exact ⟨rfl, rfl⟩
    · have e : nos q = false := by unfold nos; rw [h32, decide_eq_false h4, decide_eq_false (p := 48 ≤ q.toNat) (by omega)]; rfl
      have h3 : ((q.toNat : Int) == 32) = false := beq_eq_false_iff_ne.mpr h4
      rw [e]
      clear h32 e h4
      go_enter Tryd.func15, Tryd.ntmps15
      go_wp2
      go_ret
      exact ⟨rfl, rfl⟩

theorem pass_ascii : ∀ (l : List UInt8) (p : Option UInt8), (∀ b ∈ l, b.toNat < 128) → ∀ b ∈ passT p l, b.toNat < 128
  | [], _, _ => fun b hb => by cases hb
  | c :: t, p, h => fun b hb => by
    rcases List.mem_cons.1 (show b ∈ _ :: passT _ t from hb) with e | e
    · rw [e]
      have := h c (List.mem_cons_self ..)
      by_cases h1 : c = 95
      · rw [if_pos h1]; decide
      rw [if_neg h1]
      by_cases h2 : c = 46
      · rw [if_pos h2]
        split <;> decide
      · rw [if_neg h2]; exact this
    · exact pass_ascii t _ (fun x hx => h x (List.mem_cons_of_mem _ hx)) b e
/-- What stands at i behind the round. -/
def stepT (p : Option UInt8) (b : UInt8) (t : List UInt8) : UInt8 := if b = 95 then 32 else if b = 46 then (if prevOk p && headOk t then 46 else 32) else b
theorem pass_step (p : Option UInt8) (b : UInt8) (t : List UInt8) : passT p (b :: t) = stepT p b t :: passT (some (stepT p b t)) t := rfl
/-- Behind i rounds. -/
def AtT (l done : List UInt8) (i : Nat) : Prop := done.length = i ∧ done ++ passT done.getLast? (l.drop i) = passT none l
theorem AtT.step {l done : List UInt8} {i : Nat} {b : UInt8} {r : List UInt8} (h : AtT l done i) (hd : l.drop i = b :: r) : AtT l (done ++ [stepT done.getLast? b r]) (i + 1) := by
  obtain ⟨h1, h2⟩ := h
  have hr : l.drop (i + 1) = r := by
    rw [← List.drop_drop, hd]
    rfl
  refine ⟨by simp [h1], ?_⟩
  rw [hr, List.getLast?_concat, ← h2, hd, pass_step, List.append_assoc]
  rfl
theorem codes_set (done r : List UInt8) (b c : UInt8) (i : Nat) (h : done.length = i) : (codes (done ++ b :: r)).set i (c.toNat : Int) = codes ((done ++ [c]) ++ r) := by
  subst h
  unfold codes
  rw [List.map_append, List.set_append_right _ _ (by simp), List.map_append, List.map_append]
  simp
theorem codes_keep (done r : List UInt8) (b : UInt8) : codes (done ++ b :: r) = codes ((done ++ [b]) ++ r) := by simp

/-- The rounds' memory. -/
def MemT (w : World) (R : Nat) (l done : List UInt8) (i : Nat) (w' : World) : Prop := Rw w' R 21 .i32 (codes (done ++ l.drop i)) ∧ Below w.heap.size w w' ∧ w.heap.size ≤ R

theorem below_bytesWorld (w : World) (e : TypeId) (s : ByteArray) : Below w.heap.size w (Lib.bytesWorld w e s) :=
  ⟨rfl, rfl, rfl, by rw [Lib.bytesWorld_size]; omega, fun k hk => Lib.bytesWorld_at_old w e s k hk⟩
theorem blank_ascii (j : Nat) (b : UInt8) (hb : (⟨#[32]⟩ : ByteArray).data.toList[j]? = some b) : b.toNat < 128 := by
  have h := List.mem_of_getElem? hb
  have : b = 32 := by simpa using h
  rw [this]
  decide
theorem trim_mem (l : List UInt8) : ∀ b ∈ Lib.trimSpace l, b ∈ l := by
  intro b hb
  unfold Lib.trimSpace at hb
  have h1 := List.mem_reverse.1 hb
  have h2 := (List.dropWhile_sublist Lib.isSp).subset h1
  exact (List.dropWhile_sublist Lib.isSp).subset (List.mem_reverse.1 h2)
theorem trim_le (l : List UInt8) : (Lib.trimSpace l).length ≤ l.length := by
  unfold Lib.trimSpace
  rw [List.length_reverse]
  have h1 := (List.dropWhile_sublist Lib.isSp (l := (l.dropWhile Lib.isSp).reverse)).length_le
  have h2 := (List.dropWhile_sublist Lib.isSp (l := l)).length_le
  rw [List.length_reverse] at h1
  omega

set_option maxHeartbeats 8000000 in
set_option maxRecDepth 100000 in
theorem title (s : ByteArray) (w : World) (hT : LaidW w) (hs : Ascii s) (hz : s.size ≤ 1000000) :
    Calls Tryd.prog 12 #[.string s] w fun e w' => e = .returned (.string ⟨(titleT s.data.toList).toArray⟩) ∧ Below w.heap.size w w' := by
  obtain ⟨l, hl⟩ : ∃ l, s.data.toList = l := ⟨_, rfl⟩
  have hsz : s.size = l.length := by rw [← hl]; exact size_list s
  have hla : ∀ b ∈ l, b.toNat < 128 := by rw [← hl]; exact hs
  obtain ⟨cap, w1, hc1, hR, hb1, hcap⟩ := to_runes (P := Tryd.prog) w 9 35 21 s Tryd.underlying9 Tryd.underlying35 Tryd.underlying21 hs (by omega)
  rw [hl] at hc1 hR hcap ⊢
  have HT := Aside0.mk hT
  have HSZ := Aside0.mk hsz
  have HLA := Aside0.mk hla
  have HC := Aside0.mk hcap
  have n0 : l.length ≤ 1000000 := by omega
  have HM := Aside0.mk (show MemT w w.heap.size l [] 0 w1 from ⟨by simpa using hR, hb1, Nat.le_refl _⟩)
  have HS := Aside0.mk hs
  have hz1 : ((s.size : Nat) : Int) = (l.length : Int) := by omega
  clear hT hsz hla hcap hR hb1 hs
  have HL := Aside0.mk hl
  clear hl
  have HSW := Aside0.mk (rfl : w.heap.size = w.heap.size)
  go_enter Tryd.func12, Tryd.ntmps12
  go_wp2
  clear hc1 hz1
  go_loopg [13] l.length (fun kq v13 w' => ∃ (i : Nat) (done : List UInt8), v13 = .int .i64 (i : Int) ∧ Aside0 (i + kq = l.length) ∧ Aside0 (AtT l done i) ∧ Aside0 (MemT w w.heap.size l done i w'))
  case atStart => exact ⟨0, [], rfl, ⟨by omega⟩, ⟨⟨rfl, by simp⟩⟩, HM⟩
  case round =>
    clear HM
    obtain ⟨i, done, rfl, HI, HD, HM⟩ := hrel
    by_cases hi : i < l.length
    · have p1 : decide ((i : Int) < (l.length : Int)) = true := decide_eq_true (by omega)
      obtain ⟨b, r, hd⟩ : ∃ b r, l.drop i = b :: r := ⟨l[i], l.drop (i + 1), List.drop_eq_getElem_cons hi⟩
      have HDR := Aside0.mk hd
      have hr : l.drop (i + 1) = r := by
        rw [← List.drop_drop, hd]
        rfl
      have hrl : r.length + (i + 1) = l.length := by rw [← hr, List.length_drop]; omega
      have HR := Aside0.mk hr
      have HRL := Aside0.mk hrl
      have HS1 := Aside0.mk (HD.out.step hd)
      have hcb : wr.cell? ⟨w.heap.size, i, none⟩ = some (.int .i32 (b.toNat : Int)) := by
        refine HM.out.1.cell i _ ?_
        rw [hd]
        exact codes_at _ i b (by rw [List.getElem?_append_right (by rw [HD.out.1]; exact Nat.le_refl _), HD.out.1, Nat.sub_self]; rfl)
      have hfz : wr.frozen? ⟨w.heap.size, i, none⟩ = false := HM.out.1.frozen i (by rw [codes_len, hd]; simp [HD.out.1])
      have put : ∀ c : UInt8, MemT w w.heap.size l (done ++ [c]) (i + 1) (wr.setCell ⟨w.heap.size, i, none⟩ (.int .i32 (c.toNat : Int))) := by
        intro c
        refine ⟨?_, HM.out.2.1.setCell (p := ⟨w.heap.size, i, none⟩) HM.out.2.2 _, HM.out.2.2⟩
        have := HM.out.1.set i (c.toNat : Int) (by rw [codes_len, hd]; simp [HD.out.1])
        rw [hd, codes_set done r b c i HD.out.1] at this
        rw [hr]
        exact this
      have keep : MemT w w.heap.size l (done ++ [b]) (i + 1) wr := by
        refine ⟨?_, HM.out.2⟩
        have := HM.out.1
        rw [hd, codes_keep done r b] at this
        rw [hr]
        exact this
      have PUT := Aside0.mk put
      have KEEP := Aside0.mk keep
      have hb256 : b.toNat < 256 := b.toNat_lt
      have HB := Aside0.mk (rfl : stepT done.getLast? b r = stepT done.getLast? b r)
      clear hd hr hrl put keep
      by_cases h95 : b = 95
      · have e : stepT done.getLast? b r = 32 := by unfold stepT; rw [if_pos h95]
        have e1 : ((b.toNat : Int) == 95) = true := by rw [h95]; decide
        rw [e] at HS1
        clear e h95
        go_wp2
        go_roundg (gk - 1)
        case measure => have := HI.out; omega
        case rel => exact ⟨i + 1, done ++ [32], by go_num, ⟨by have := HI.out; omega⟩, HS1, ⟨PUT.out 32⟩⟩
      · have e1 : ((b.toNat : Int) == 95) = false := beq_eq_false_iff_ne.mpr (fun c => h95 (UInt8.toNat_inj.1 (by have : (95 : UInt8).toNat = 95 := rfl; omega)))
        by_cases h46 : b = 46
        · have e2 : ((b.toNat : Int) == 46) = true := by rw [h46]; decide
          have hst : ∀ x y, prevOk done.getLast? = x → headOk r = y → stepT done.getLast? b r = if x && y then 46 else 32 := by
            intro x y hx hy
            unfold stepT
            rw [if_neg h95, if_pos h46, hx, hy]
          have HST := Aside0.mk hst
          clear hst
          have H46 := Aside0.mk h46
          clear h46 h95
          by_cases h0 : i = 0
          · have e3 : ((i : Int) == 0) = true := beq_iff_eq.mpr (by omega)
            have e4 : ((i : Int) != 0) = false := by rw [bne, e3]; rfl
            have hp : prevOk done.getLast? = true := by have := HD.out.1; rw [h0] at this; rw [List.length_eq_zero_iff.1 this]; rfl
            have HP := Aside0.mk hp
            clear hp h0
            cases hr0 : r with
            | nil =>
              have e5 : ((i : Int) == (l.length : Int) - 1) = true := beq_iff_eq.mpr (by have := HRL.out; rw [hr0] at this; simp at this; omega)
              have e6 : ((i : Int) != (l.length : Int) - 1) = false := by rw [bne, e5]; rfl
              have hs := HST.out true true HP.out (by rw [hr0]; rfl)
              rw [hs] at HS1
              clear hs
              have HS2 : Aside0 (AtT l (done ++ [b]) (i + 1)) := by rw [H46.out]; exact HS1
              clear hr0 HST
              go_wp2
              go_roundg (gk - 1)
              case measure => have := HI.out; omega
              case rel => exact ⟨i + 1, done ++ [b], by go_num, ⟨by have := HI.out; omega⟩, HS2, ⟨KEEP.out⟩⟩
            | cons q' r' =>
              have hlt2 : i + 1 < l.length := by have := HRL.out; rw [hr0] at this; simp at this; omega
              have e5 : ((i : Int) == (l.length : Int) - 1) = false := beq_eq_false_iff_ne.mpr (by omega)
              have e6 : ((i : Int) != (l.length : Int) - 1) = true := by rw [bne, e5]; rfl
              have hcq : wr.cell? ⟨w.heap.size, i + 1, none⟩ = some (.int .i32 (q'.toNat : Int)) := by
                refine HM.out.1.cell (i + 1) _ ?_
                rw [HDR.out, hr0]
                exact codes_at _ (i + 1) q' (by rw [List.getElem?_append_right (by rw [HD.out.1]; omega), HD.out.1, Nat.add_sub_cancel_left]; rfl)
              have tn : ((i : Int) + 1).toNat = i + 1 := by omega
              have cq := isNos q'
              cases hn' : nos q' with
              | true =>
                rw [hn'] at cq
                have hs := HST.out true true HP.out (by rw [hr0]; exact hn')
                rw [hs] at HS1
                clear hs
                have HS2 : Aside0 (AtT l (done ++ [b]) (i + 1)) := by rw [H46.out]; exact HS1
                clear hr0 HST hn'
                have CQ := Aside0.mk cq
                clear cq
                go_wp2_with (first | ((with_reducible refine (CQ.out _).mono ?_); rintro e w' ⟨rfl, rfl⟩))
                go_roundg (gk - 1)
                case measure => have := HI.out; omega
                case rel => exact ⟨i + 1, done ++ [b], by go_num, ⟨by have := HI.out; omega⟩, HS2, ⟨KEEP.out⟩⟩
              | false =>
                rw [hn'] at cq
                have hs := HST.out true false HP.out (by rw [hr0]; exact hn')
                rw [hs] at HS1
                clear hs
                clear hr0 HST hn'
                have CQ := Aside0.mk cq
                clear cq
                go_wp2_with (first | ((with_reducible refine (CQ.out _).mono ?_); rintro e w' ⟨rfl, rfl⟩))
                go_roundg (gk - 1)
                case measure => have := HI.out; omega
                case rel => exact ⟨i + 1, done ++ [32], by go_num, ⟨by have := HI.out; omega⟩, HS1, ⟨PUT.out 32⟩⟩
          · have e3 : ((i : Int) == 0) = false := beq_eq_false_iff_ne.mpr (by omega)
            have e4 : ((i : Int) != 0) = true := by rw [bne, e3]; rfl
            obtain ⟨d0, q, hq⟩ : ∃ d0 q, done = d0 ++ [q] := ⟨done.dropLast, done.getLast (by intro e; have := HD.out.1; rw [e] at this; exact h0 this.symm), (List.dropLast_concat_getLast _).symm⟩
            have hp : prevOk done.getLast? = nos q := by rw [hq, List.getLast?_concat]; rfl
            have hcp : wr.cell? ⟨w.heap.size, i - 1, none⟩ = some (.int .i32 (q.toNat : Int)) := by
              refine HM.out.1.cell (i - 1) _ ?_
              have hl0 : d0.length = i - 1 := by have := HD.out.1; rw [hq] at this; simp at this; omega
              rw [hq, List.append_assoc]
              exact codes_at _ (i - 1) q (by rw [List.getElem?_append_right (by rw [hl0]; exact Nat.le_refl _), hl0, Nat.sub_self]; rfl)
            have tm : ((i : Int) - 1).toNat = i - 1 := by omega
            have cp := isNos q
            have HP := Aside0.mk hp
            clear hp hq
            cases hn : nos q with
            | false =>
              rw [hn] at cp HP
              have hs := HST.out false _ HP.out rfl
              rw [hs] at HS1
              clear hs hn HST
              have CP := Aside0.mk cp
              clear cp
              go_wp2_with (first | ((with_reducible refine (CP.out _).mono ?_); rintro e w' ⟨rfl, rfl⟩))
              go_roundg (gk - 1)
              case measure => have := HI.out; omega
              case rel => exact ⟨i + 1, done ++ [32], by go_num, ⟨by have := HI.out; omega⟩, HS1, ⟨PUT.out 32⟩⟩
            | true =>
              rw [hn] at cp HP
              clear hn
              have CP := Aside0.mk cp
              clear cp
              cases hr0 : r with
              | nil =>
                have e5 : ((i : Int) == (l.length : Int) - 1) = true := beq_iff_eq.mpr (by have := HRL.out; rw [hr0] at this; simp at this; omega)
                have e6 : ((i : Int) != (l.length : Int) - 1) = false := by rw [bne, e5]; rfl
                have hs := HST.out true true HP.out (by rw [hr0]; rfl)
                rw [hs] at HS1
                clear hs
                have HS2 : Aside0 (AtT l (done ++ [b]) (i + 1)) := by rw [H46.out]; exact HS1
                clear hr0 HST
                go_wp2_with (first | ((with_reducible refine (CP.out _).mono ?_); rintro e w' ⟨rfl, rfl⟩))
                go_roundg (gk - 1)
                case measure => have := HI.out; omega
                case rel => exact ⟨i + 1, done ++ [b], by go_num, ⟨by have := HI.out; omega⟩, HS2, ⟨KEEP.out⟩⟩
              | cons q' r' =>
                have hlt2 : i + 1 < l.length := by have := HRL.out; rw [hr0] at this; simp at this; omega
                have e5 : ((i : Int) == (l.length : Int) - 1) = false := beq_eq_false_iff_ne.mpr (by omega)
                have e6 : ((i : Int) != (l.length : Int) - 1) = true := by rw [bne, e5]; rfl
                have hcq : wr.cell? ⟨w.heap.size, i + 1, none⟩ = some (.int .i32 (q'.toNat : Int)) := by
                  refine HM.out.1.cell (i + 1) _ ?_
                  rw [HDR.out, hr0]
                  exact codes_at _ (i + 1) q' (by rw [List.getElem?_append_right (by rw [HD.out.1]; omega), HD.out.1, Nat.add_sub_cancel_left]; rfl)
                have tn : ((i : Int) + 1).toNat = i + 1 := by omega
                have cq := isNos q'
                cases hn' : nos q' with
                | true =>
                  rw [hn'] at cq
                  have hs := HST.out true true HP.out (by rw [hr0]; exact hn')
                  rw [hs] at HS1
                  clear hs
                  have HS2 : Aside0 (AtT l (done ++ [b]) (i + 1)) := by rw [H46.out]; exact HS1
                  clear hr0 HST hn'
                  have CQ := Aside0.mk cq
                  clear cq
                  go_wp2_with (first | ((with_reducible refine (CP.out _).mono ?_); rintro e w' ⟨rfl, rfl⟩) | ((with_reducible refine (CQ.out _).mono ?_); rintro e w' ⟨rfl, rfl⟩))
                  go_roundg (gk - 1)
                  case measure => have := HI.out; omega
                  case rel => exact ⟨i + 1, done ++ [b], by go_num, ⟨by have := HI.out; omega⟩, HS2, ⟨KEEP.out⟩⟩
                | false =>
                  rw [hn'] at cq
                  have hs := HST.out true false HP.out (by rw [hr0]; exact hn')
                  rw [hs] at HS1
                  clear hs
                  clear hr0 HST hn'
                  have CQ := Aside0.mk cq
                  clear cq
                  go_wp2_with (first | ((with_reducible refine (CP.out _).mono ?_); rintro e w' ⟨rfl, rfl⟩) | ((with_reducible refine (CQ.out _).mono ?_); rintro e w' ⟨rfl, rfl⟩))
                  go_roundg (gk - 1)
                  case measure => have := HI.out; omega
                  case rel => exact ⟨i + 1, done ++ [32], by go_num, ⟨by have := HI.out; omega⟩, HS1, ⟨PUT.out 32⟩⟩
        · have e2 : ((b.toNat : Int) == 46) = false := beq_eq_false_iff_ne.mpr (fun c => h46 (UInt8.toNat_inj.1 (by have : (46 : UInt8).toNat = 46 := rfl; omega)))
          have e : stepT done.getLast? b r = b := by unfold stepT; rw [if_neg h95, if_neg h46]
          rw [e] at HS1
          clear e h95 h46
          go_wp2
          go_roundg (gk - 1)
          case measure => have := HI.out; omega
          case rel => exact ⟨i + 1, done ++ [b], by go_num, ⟨by have := HI.out; omega⟩, HS1, ⟨KEEP.out⟩⟩
    · have hii : i = l.length := by have := HI.out; omega
      have p1 : decide ((i : Int) < (l.length : Int)) = false := decide_eq_false (by omega)
      have hd0 : l.drop i = [] := by rw [hii]; simp
      have hdone : done = passT none l := by have := HD.out.2; rw [hd0] at this; simpa [passT] using this
      have hdl : done.length = l.length := by rw [HD.out.1, hii]
      have hda : ∀ b ∈ done, b.toNat < 128 := by rw [hdone]; exact pass_ascii l none HLA.out
      have hcv := of_runes (P := Tryd.prog) wr 35 9 21 w.heap.size cap done Tryd.underlying35 Tryd.underlying21 Tryd.underlying9 (by have := HM.out.1; rw [hd0, List.append_nil] at this; exact this) hda
      rw [hdl] at hcv
      have HB := Aside0.mk HM.out.2.1
      have HTW := Aside0.mk (HT.out.on HB.out)
      have HDL := Aside0.mk hdl
      have HDA := Aside0.mk hda
      obtain ⟨t, ht⟩ : ∃ t : ByteArray, (⟨done.toArray⟩ : ByteArray) = t := ⟨_, rfl⟩
      rw [ht] at hcv
      have htl : t.data.toList = done := by rw [← ht]
      have HTL := Aside0.mk htl
      have hlen0 : done.length ≤ 1000000 := by omega
      rw [hdone] at htl
      have HPT := Aside0.mk htl
      clear hii hd0 hdone hdl hda HD HM HI ht htl
      obtain ⟨u, hu⟩ : ∃ u : ByteArray, (⟨(Lib.trimSpace t.data.toList).toArray⟩ : ByteArray) = u := ⟨_, rfl⟩
      have hul : u.data.toList = Lib.trimSpace (passT none l) := by rw [← hu, HPT.out]
      have ct := Tryd.strings_TrimSpace t wr (by rw [size_list, HTL.out]; omega) (fun j b hb => HDA.out b (by rw [← HTL.out]; exact List.mem_of_getElem? hb)) HTW.out.here
      rw [hu] at ct
      have hux : u.size = u.data.toList.length := size_list u
      have hua : ∀ b ∈ u.data.toList, b.toNat < 128 := by
        intro b hb
        rw [hul] at hb
        have hb2 := trim_mem _ _ hb
        rw [← HPT.out, HTL.out] at hb2
        exact HDA.out b hb2
      have hul2 : u.data.toList.length ≤ 1000000 := by
        rw [hul]
        have := trim_le (passT none l)
        rw [pass_len] at this
        omega
      have HUL := Aside0.mk hul
      have HUA := Aside0.mk hua
      have HUX := Aside0.mk hux
      have CT := Aside0.mk ct
      have HW2 := Aside0.mk (HB.out.trans ((below_bytesWorld wr 5 t).mono HB.out.size))
      clear ct hul hu hux hua
      generalize Lib.bytesWorld wr 5 t = w2 at CT HW2
      by_cases h0 : u.data.toList = []
      · have e0 : ((u.size : Int) == 0) = true := by rw [HUX.out, h0]; rfl
        by_cases hl0 : l = []
        · have e1 : decide (0 < l.length) = false := by rw [hl0]; rfl
          have HRS := Aside0.mk (show Lib.toUpperA u.data.toList = titleT l by unfold titleT trimT; rw [if_neg (fun c => c.2 (by rw [hl0]; rfl)), HUL.out])
          clear h0 hl0
          go_wp2_with (first | ((go_at_call 16; with_reducible refine CT.out.mono ?_); rintro e w2 ⟨rfl, rfl⟩) | ((go_at_call 17; with_reducible refine (Tryd.strings_ToUpper_ascii u _ (by rw [HUX.out]; omega) (fun j b hb => HUA.out b (List.mem_of_getElem? hb))).mono ?_); rintro e w3 ⟨rfl, h3⟩))
          go_ret
          exact ⟨congrArg (fun x : List UInt8 => Ending.returned (.string ⟨x.toArray⟩)) HRS.out, HW2.out.trans (h3.mono HW2.out.size)⟩
        · have e1 : decide (0 < l.length) = true := decide_eq_true (List.length_pos_iff.2 hl0)
          have HRS := Aside0.mk (show Lib.toUpperA [32] = titleT l by unfold titleT trimT; rw [if_pos ⟨by rw [← HUL.out]; exact h0, fun c => hl0 (List.length_eq_zero_iff.1 (by rw [← pass_len l none, c]; rfl))⟩])
          clear h0 hl0
          go_wp2_with (first | ((go_at_call 16; with_reducible refine CT.out.mono ?_); rintro e w2 ⟨rfl, rfl⟩) | ((go_at_call 17; with_reducible refine (Tryd.strings_ToUpper_ascii ⟨#[32]⟩ _ (by decide) blank_ascii).mono ?_); rintro e w3 ⟨rfl, h3⟩))
          go_ret
          exact ⟨congrArg (fun x : List UInt8 => Ending.returned (.string ⟨x.toArray⟩)) HRS.out, HW2.out.trans (h3.mono HW2.out.size)⟩
      · have e0 : ((u.size : Int) == 0) = false := beq_eq_false_iff_ne.mpr (by rw [HUX.out]; have := List.length_pos_iff.2 h0; omega)
        have HRS := Aside0.mk (show Lib.toUpperA u.data.toList = titleT l by unfold titleT trimT; rw [if_neg (fun c => h0 (by rw [HUL.out]; exact c.1)), HUL.out])
        clear h0
        go_wp2_with (first | ((go_at_call 16; with_reducible refine CT.out.mono ?_); rintro e w2 ⟨rfl, rfl⟩) | ((go_at_call 17; with_reducible refine (Tryd.strings_ToUpper_ascii u _ (by rw [HUX.out]; omega) (fun j b hb => HUA.out b (List.mem_of_getElem? hb))).mono ?_); rintro e w3 ⟨rfl, h3⟩))
        go_ret
        exact ⟨congrArg (fun x : List UInt8 => Ending.returned (.string ⟨x.toArray⟩)) HRS.out, HW2.out.trans (h3.mono HW2.out.size)⟩

def asciiB (s : ByteArray) : Bool := s.data.toList.all fun b => decide (b.toNat < 128)
theorem asciiB_iff {s : ByteArray} (h : asciiB s = true) : Ascii s := fun b hb => of_decide_eq_true (List.all_eq_true.1 h b hb)
def impl_TwTitle.f (a0 : ByteArray) : Option ByteArray := if a0.size ≤ 1000000 ∧ asciiB a0 = true then some ⟨(titleT a0.data.toList).toArray⟩ else none
set_option maxHeartbeats 8000000 in
set_option maxRecDepth 100000 in
theorem impl_TwTitle.calls (a0 : ByteArray) (r : ByteArray) (w : World) (hT : LaidW w) (h : impl_TwTitle.f a0 = some r) :
    Calls Tryd.prog 7 #[.string a0] w fun e w' => e = .returned (.string r) ∧ Below w.heap.size w w' := by
  unfold impl_TwTitle.f at h
  split at h
  case isFalse => cases h
  rename_i hc
  obtain rfl := Option.some.inj h
  have CT := Aside0.mk (title a0 w hT (asciiB_iff hc.2) hc.1)
  clear hc hT h
  go_enter Tryd.func7, Tryd.ntmps7
  go_wp2_with ((go_at_call 12; with_reducible refine CT.out.mono ?_); rintro e w2 ⟨rfl, h2⟩)
  go_ret
  exact ⟨rfl, h2⟩

/-- The rounds of TwUpper. -/
def MemU (w : World) (R : Nat) (l : List UInt8) (i : Nat) (w' : World) : Prop := Rw w' R 5 .u8 (codes ((l.take i).map Lib.upperB ++ l.drop i)) ∧ Below w.heap.size w w' ∧ w.heap.size ≤ R
theorem upper_low {b : UInt8} (h1 : 97 ≤ b.toNat) (h2 : b.toNat ≤ 122) : (b.toNat : Int) - 32 = ((Lib.upperB b).toNat : Int) := by
  have : ∀ n : Fin 256, 97 ≤ n.val → n.val ≤ 122 → ((UInt8.ofNat n.val).toNat : Int) - 32 = ((Lib.upperB (UInt8.ofNat n.val)).toNat : Int) := by decide +kernel
  have := this ⟨b.toNat, b.toNat_lt⟩ h1 h2
  simpa using this
theorem upper_else {b : UInt8} (h : ¬ (97 ≤ b.toNat ∧ b.toNat ≤ 122)) : Lib.upperB b = b := by
  have : ∀ n : Fin 256, ¬ (97 ≤ n.val ∧ n.val ≤ 122) → Lib.upperB (UInt8.ofNat n.val) = UInt8.ofNat n.val := by decide +kernel
  have := this ⟨b.toNat, b.toNat_lt⟩ h
  simpa using this
set_option maxHeartbeats 8000000 in
set_option maxRecDepth 100000 in
theorem upper (s : ByteArray) (w : World) (hz : s.size ≤ 1000000) :
    Calls Tryd.prog 8 #[.string s] w fun e w' => e = .returned (.string ⟨(Lib.toUpperA s.data.toList).toArray⟩) ∧ Below w.heap.size w w' := by
  obtain ⟨l, hl⟩ : ∃ l, s.data.toList = l := ⟨_, rfl⟩
  have hsz : s.size = l.length := by rw [← hl]; exact size_list s
  obtain ⟨cap, w1, hc1, hR, hb1, hcap⟩ := to_bytes (P := Tryd.prog) w 9 29 5 s Tryd.underlying9 Tryd.underlying29 Tryd.underlying5
  rw [hl] at hc1 hR hcap ⊢
  have HSZ := Aside0.mk hsz
  have HC := Aside0.mk hcap
  have n0 : l.length ≤ 1000000 := by omega
  have HM := Aside0.mk (show MemU w w.heap.size l 0 w1 from ⟨by simpa using hR, hb1, Nat.le_refl _⟩)
  clear hsz hcap hR hb1 hz
  have HL := Aside0.mk hl
  clear hl
  go_enter Tryd.func8, Tryd.ntmps8
  go_wp2
  clear hc1
  go_loopg [4] l.length (fun kq v4 w' => ∃ i : Nat, v4 = .int .i64 (i : Int) ∧ Aside0 (i + kq = l.length) ∧ Aside0 (MemU w w.heap.size l i w'))
  case atStart => exact ⟨0, rfl, ⟨by omega⟩, HM⟩
  case round =>
    clear HM
    obtain ⟨i, rfl, HI, HM⟩ := hrel
    by_cases hi : i < l.length
    · have p1 : decide ((i : Int) < (l.length : Int)) = true := decide_eq_true (by omega)
      obtain ⟨b, hb⟩ : ∃ b, l[i] = b := ⟨_, rfl⟩
      have htk : l.take (i + 1) = l.take i ++ [b] := by rw [List.take_succ_eq_append_getElem hi, hb]
      have hdr : l.drop i = b :: l.drop (i + 1) := by rw [List.drop_eq_getElem_cons hi, hb]
      have htl : ((l.take i).map Lib.upperB).length = i := by rw [List.length_map, List.length_take]; omega
      have hcb : wr.cell? ⟨w.heap.size, i, none⟩ = some (.int .u8 (b.toNat : Int)) := by
        refine HM.out.1.cell i _ ?_
        rw [hdr]
        exact codes_at _ i b (by rw [List.getElem?_append_right (by rw [htl]; exact Nat.le_refl _), htl, Nat.sub_self]; rfl)
      have hlt : i < (codes ((l.take i).map Lib.upperB ++ l.drop i)).length := by rw [codes_len, hdr, List.length_append, htl, List.length_cons]; omega
      have hfz : wr.frozen? ⟨w.heap.size, i, none⟩ = false := HM.out.1.frozen i hlt
      have put : MemU w w.heap.size l (i + 1) (wr.setCell ⟨w.heap.size, i, none⟩ (.int .u8 ((Lib.upperB b).toNat : Int))) := by
        refine ⟨?_, HM.out.2.1.setCell (p := ⟨w.heap.size, i, none⟩) HM.out.2.2 _, HM.out.2.2⟩
        have := HM.out.1.set i ((Lib.upperB b).toNat : Int) hlt
        rw [hdr, codes_set _ _ b (Lib.upperB b) i htl] at this
        rw [htk, List.map_append]
        exact this
      have keep : Lib.upperB b = b → MemU w w.heap.size l (i + 1) wr := by
        intro e
        refine ⟨?_, HM.out.2⟩
        have := HM.out.1
        rw [hdr, codes_keep] at this
        rw [htk, List.map_append]
        show Rw _ _ _ _ (codes ((_ ++ [Lib.upperB b]) ++ _))
        rw [e]
        exact this
      have PUT := Aside0.mk put
      have KEEP := Aside0.mk keep
      have hb256 : b.toNat < 256 := b.toNat_lt
      clear hb htk hdr htl hlt put keep
      by_cases h1 : (97 : Int) ≤ (b.toNat : Int)
      · by_cases h2 : (b.toNat : Int) ≤ 122
        · have hup := upper_low (b := b) (by omega) (by omega)
          have HUP := Aside0.mk hup
          clear hup
          go_wp2
          rw [HUP.out]
          go_roundg (gk - 1)
          case measure => have := HI.out; omega
          case rel => exact ⟨i + 1, by go_num, ⟨by have := HI.out; omega⟩, PUT⟩
        · have K := Aside0.mk (KEEP.out (upper_else (by omega)))
          go_wp2
          go_roundg (gk - 1)
          case measure => have := HI.out; omega
          case rel => exact ⟨i + 1, by go_num, ⟨by have := HI.out; omega⟩, K⟩
      · have K := Aside0.mk (KEEP.out (upper_else (by omega)))
        go_wp2
        go_roundg (gk - 1)
        case measure => have := HI.out; omega
        case rel => exact ⟨i + 1, by go_num, ⟨by have := HI.out; omega⟩, K⟩
    · have hii : i = l.length := by have := HI.out; omega
      have p1 : decide ((i : Int) < (l.length : Int)) = false := decide_eq_false (by omega)
      have hcv := of_bytes (P := Tryd.prog) wr 29 9 5 w.heap.size cap (Lib.toUpperA l) Tryd.underlying29 Tryd.underlying5 Tryd.underlying9 (by
        have := HM.out.1
        rw [hii, List.take_length, List.drop_length, List.append_nil] at this
        exact this)
      rw [show (Lib.toUpperA l).length = l.length by unfold Lib.toUpperA; rw [List.length_map]] at hcv
      clear hii
      go_wp2
      go_ret
      exact ⟨rfl, HM.out.2.1⟩
def spec_TwUpper.f (a0 : ByteArray) : Option ByteArray := if a0.size ≤ 1000000 then some ⟨(Lib.toUpperA a0.data.toList).toArray⟩ else none
theorem spec_TwUpper.calls (a0 : ByteArray) (r : ByteArray) (w : World) (h : spec_TwUpper.f a0 = some r) :
    Calls Tryd.prog 8 #[.string a0] w fun e w' => e = .returned (.string r) ∧ Below w.heap.size w w' := by
  unfold spec_TwUpper.f at h
  split at h
  case isFalse => cases h
  rename_i hc
  obtain rfl := Option.some.inj h
  exact upper a0 w hc
end Go.Proofs.YtmadlpclnlbpgaaDoor.Hand
