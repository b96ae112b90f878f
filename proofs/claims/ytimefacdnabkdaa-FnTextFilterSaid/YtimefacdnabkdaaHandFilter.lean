/- What impl.TextFilter computes: the texts of the first list that are among the second one, in order. -/
import Derived.Test.YtimefacdnabkdaaPamongx1
import Derived.Test.YtimefacdnabkdaaBase
namespace Go.Proofs.Ytimefacdnabkdaa.Hand
open Go.RowKit Go.Proofs.YtimefacdnabkdaaW.PrintWords Go.Proofs.YtimefacdnabkdaaW.PrintLast Go.Proofs.YtimefacdnabkdaaW.PrintMore
open Go.Proofs.Ytimefacdnabkdaa.Base
set_option linter.unusedVariables false
set_option linter.unusedSimpArgs false

def amg (l : List ByteArray) (a : ByteArray) : Bool := l.any (fun y => y.data.toList == a.data.toList)
def filt (l0 l1 : List ByteArray) : List ByteArray := l0.filter (amg l1)
theorem info9 : (Try.prog.info? 9).map (fun i => (i.zero, i.size, i.bytes)) = some (some (.string ByteArray.empty), 1, 16) := by kernel_rfl

open Pamong in
theorem among_ev (l : List ByteArray) (a : ByteArray) (hl : l.length ≤ 1000000000) : Ev (fun k => impl_among.f k l a) (amg l a) := by
  have h : ∀ (r p : List ByteArray), l = p ++ r → Ev (fun k => impl_among.l0 k a l (l.length : Int) (p.length : Int)) (amg r a) := by
    intro r
    induction r with
    | nil =>
      intro p hp
      refine Ev.step (f := fun _ => some _) (fun k => ?_) (Ev.now _)
      simp only [impl_among.l0]
      rw [if_neg (by rw [hp]; simp)]
      rfl
    | cons q r ih =>
      intro p hp
      have hlen : l.length = p.length + r.length + 1 := by rw [hp]; simp; omega
      have hrd : rdOf ByteArray.empty l (p.length : Int) = q := by rw [hp]; simp [rdOf, List.getD]
      by_cases hq : q = a
      · refine Ev.step (f := fun _ => some _) (fun k => ?_) (Ev.now _)
        simp only [impl_among.l0]
        rw [if_pos (by omega), if_pos (by omega), if_pos (by omega), hrd, if_pos (by rw [hq])]
        simp [hq, amg]
      · have := ih (p ++ [q]) (by rw [hp]; simp)
        refine Ev.step (f := fun k => impl_among.l0 k a l (l.length : Int) ((p ++ [q]).length : Int)) (fun k => ?_) (by
          have e : amg (q :: r) a = amg r a := by
            unfold amg
            rw [List.any_cons]
            have : (q.data.toList == a.data.toList) = false := beq_eq_false_iff_ne.mpr (fun e => hq (bytes_ext e))
            rw [this, Bool.false_or]
          rw [e]; exact this)
        simp only [impl_among.l0]
        rw [if_pos (by omega), if_pos (by omega), if_pos (by omega), hrd, if_neg (by
          intro e; apply hq; rw [toList_data, toList_data] at e; exact bytes_ext e), succ_len (q := q) (by omega)]
  exact h l [] rfl

set_option maxHeartbeats 8000000 in
set_option maxRecDepth 100000 in
open Pamong in
theorem clos_calls (A1 : Option Addr) (c1 : Nat) (l1 : List ByteArray) (g : Nat) (s : ByteArray) (k : Nat) (b : Bool) (w : World) (hr1 : Kd.C Kd.string w A1 l1.length l1) (hc1 : l1.length ≤ c1)
    (hg : w.heap[g]? = some (.cells #[.slice A1 l1.length c1] 25 (0, 0))) (hk : impl_among.f k l1 s = some b) :
    Calls Try.prog 23 #[.string s, .pointer (some ⟨g, 0, none⟩)] w fun e w' => e = .returned (.bool b) ∧ Drawn0 w w' := by
  have HR1 := Aside0.mk hr1
  have HC1 := Aside0.mk hc1
  have HK := Aside0.mk hk
  have hc : w.cell? ⟨g, 0, none⟩ = some (.slice A1 l1.length c1) := blk_cell hg 0
  clear hr1 hc1 hg hk
  go_enter Try.func23, Try.ntmps23
  go_wp2_with fail
  refine (impl_among.calls k A1 c1 l1 s b _ HR1.out HC1.out HK.out).mono ?_
  rintro e w' ⟨rfl, ⟨nd, rfl⟩⟩
  go_wp2_with fail
  go_ret
  exact ⟨rfl, by repeat (first | exact Drawn0.refl _ | apply Drawn0.step)⟩

set_option maxHeartbeats 8000000 in
set_option maxRecDepth 100000 in
theorem filter_calls (A0 A1 : Option Addr) (c0 c1 : Nat) (l0 l1 : List ByteArray) (g : Nat) (w : World) (hr0 : Kd.C Kd.string w A0 l0.length l0) (hr1 : Kd.C Kd.string w A1 l1.length l1) (hc1 : l1.length ≤ c1)
    (hg : w.heap[g]? = some (.cells #[.slice A1 l1.length c1] 25 (0, 0))) (h0 : l0.length ≤ 1000000000) (h1 : l1.length ≤ 1000000000) :
    Calls Try.prog 22 #[.slice A0 l0.length c0, .func (.func 23) #[] #[.pointer (some ⟨g, 0, none⟩)]] w fun e w' => ∃ v0_ : Value, e = .returned v0_ ∧ Kd.R Kd.string 9 w' w.heap.size (fun _ => True) v0_ (filt l0 l1) ∧ Below w.heap.size w w' := by
  have HR0 := Aside0.mk hr0
  have HR1 := Aside0.mk hr1
  have HG := Aside0.mk hg
  have HC1 := Aside0.mk hc1
  clear hr0 hr1 hg hc1
  have HB := Aside0.mk (Below.refl w.heap.size w)
  go_enter Try.func22, Try.ntmps22
  go_wp2
  go_loopg [5, 10] l0.length (fun kq v5 v10 w' => ∃ i : Nat, v10 = .int .i64 (i : Int) ∧ Aside0 (i + kq = l0.length) ∧ Aside0 (Kd.R Kd.string 9 w' w.heap.size (fun _ => True) v5 (filt (l0.take i) l1)) ∧ Aside0 (Below w.heap.size w w'))
  case atStart => exact ⟨0, rfl, ⟨by omega⟩, ⟨Kd.R_nil _ _ _ _ _⟩, ⟨HB.out⟩⟩
  case round =>
    clear HB
    obtain ⟨i, rfl, HI, HO, HB⟩ := hrel
    by_cases hi : i < l0.length
    · obtain ⟨ad, e, hx⟩ := Kd.at_string HR0.out (i : Int) (by omega) (by omega)
      cases e
      obtain ⟨s, hs⟩ : ∃ s, rdOf ByteArray.empty l0 (i : Int) = s := ⟨_, rfl⟩
      rw [hs, Int.toNat_natCast] at hx
      have hs' : l0[i] = s := by rw [← hs]; simp [rdOf, List.getD, hi]
      have htk : filt (l0.take (i + 1)) l1 = filt (l0.take i) l1 ++ (if amg l1 s = true then [s] else []) := by
        rw [List.take_succ_eq_append_getElem hi, hs']
        unfold filt
        rw [List.filter_append]
        congr 1
        by_cases h : amg l1 s = true <;> simp [h]
      have HTK := Aside0.mk htk
      obtain ⟨ka, hka⟩ := (among_ev l1 s h1).rounds
      have HKA := Aside0.mk hka
      have hfl : (filt (l0.take i) l1).length ≤ i := by
        unfold filt
        have h2 := List.length_filter_le (amg l1) (l0.take i)
        rw [List.length_take] at h2
        omega
      clear hka htk hs hs'
      generalize filt (l0.take i) l1 = xs at *
      replace hx := (HB.out.cell (World.block_lt_of_cell? w _ hx)).trans hx
      have p1 : decide ((i : Int) < (l0.length : Int)) = true := decide_eq_true (by omega)
      go_wp2_with fail
      have HGW := Aside0.mk (blk_below HG.out HB.out)
      refine (clos_calls A1 c1 l1 g s ka (amg l1 s) wr (Kd.C_below HR1.out HB.out) HC1.out HGW.out HKA.out).mono ?_
      rintro e w4 ⟨rfl, ⟨nd, rfl⟩⟩
      clear HGW hx
      cases hb : amg l1 s with
      | false =>
        rw [hb] at HTK
        clear hb
        go_wp2_with fail
        go_roundg (gk - 1)
        case measure => have := HI.out; omega
        case rel => exact ⟨i + 1, by go_num, ⟨by have := HI.out; omega⟩, ⟨by rw [HTK.out]; simpa using Kd.R_drewN HO.out nd⟩, ⟨pw_below_drewN HB.out nd⟩⟩
      | true =>
        rw [hb] at HTK
        clear hb
        go_wp2_with (first
          | ((with_reducible refine gate_builtin (b := .append) (xs := #[.tmp 17, .tmp 19]) rfl ?_); at_builtin; refine Kd.R_append Kd.string (w0 := w) w.heap.size rfl (.tmp 17) (.tmp 19) 25 9 (.string ByteArray.empty) 16 rfl Try.underlying25 info9 rfl (by decide) (by omega) u5 xs s [.string s] (fun _ => True) (fun _ => False) rfl rfl ?aP (fun _ hk => hk.elim) ?aF ?aO ?aB ?aS ?aL ?_; (case aP => exact rfl); (case aF => exact (fun _ _ => trivial)); (case aO => exact (Kd.R_drewN HO.out nd)); (case aB => exact (pw_below_drewN HB.out nd)); (case aS => exact (pw_below_drewN HB.out nd).size); (case aL => omega); intro v5 w5 ho hb hg hat))
        go_roundg (gk - 1)
        case measure => have := HI.out; omega
        case rel => exact ⟨i + 1, by go_num, ⟨by have := HI.out; omega⟩, ⟨by rw [HTK.out]; simpa using ho⟩, ⟨hb⟩⟩
    · have hii : i = l0.length := by have := HI.out; omega
      have HO2 := Aside0.mk (show Kd.R Kd.string 9 wr w.heap.size (fun _ => True) u5 (filt l0 l1) by have h2 := HO.out; rw [hii, List.take_length] at h2; exact h2)
      have p1 : decide ((i : Int) < (l0.length : Int)) = false := decide_eq_false (by omega)
      clear hii HO
      go_wp2_with fail
      go_ret
      exact ⟨_, rfl, HO2.out, HB.out⟩

def impl_TextFilter.f (l0 l1 : List ByteArray) : Option (List ByteArray) := if l0.length ≤ 1000000000 ∧ l1.length ≤ 1000000000 then some (filt l0 l1) else none
set_option maxHeartbeats 8000000 in
set_option maxRecDepth 100000 in
theorem impl_TextFilter.calls (A0 : Option Addr) (c0 : Nat) (l0 : List ByteArray) (A1 : Option Addr) (c1 : Nat) (l1 : List ByteArray) (r : List ByteArray) (w : World) (hr0 : Kd.C Kd.string w A0 l0.length l0) (hc0 : l0.length ≤ c0) (hr1 : Kd.C Kd.string w A1 l1.length l1) (hc1 : l1.length ≤ c1)
    (h : impl_TextFilter.f l0 l1 = some r) :
    Calls Try.prog 13 #[.slice A0 l0.length c0, .slice A1 l1.length c1] w fun e w' => ∃ v0_ : Value, e = .returned v0_ ∧ Kd.R Kd.string 9 w' w.heap.size (fun _ => True) v0_ r ∧ Below w.heap.size w w' := by
  unfold impl_TextFilter.f at h
  split at h
  case isFalse => cases h
  rename_i hcond
  obtain rfl := Option.some.inj h
  have HCOND := Aside0.mk hcond
  have HR0 := Aside0.mk hr0
  have HR1 := Aside0.mk hr1
  have HC1 := Aside0.mk hc1
  have HB := Aside0.mk (Below.refl w.heap.size w)
  clear hcond h hr0 hr1 hc0 hc1
  go_enter Try.func13, Try.ntmps13
  go_wp2_with (first
    | ((with_reducible refine gate_dst (N := 3) rfl ?_); refine box_event ?hg (N := 3) ?hd (cs := #[.slice A1 l1.length c1]) (t := 25) ?hr ?_; (case hd => rfl); (case hg => rfl); (case hr => first | (go_simp; done) | (go_simp; rfl)); intro gc hgc w1 hbox hb1; have HBOX := Aside0.mk hbox; have HB1 := Aside0.mk hb1; clear hgc hbox hb1))
  refine (filter_calls A0 A1 c0 c1 l0 l1 gc w1 (Kd.C_below HR0.out HB1.out) (Kd.C_below HR1.out HB1.out) HC1.out HBOX.out HCOND.out.1 HCOND.out.2).mono ?_
  rintro e w4 ⟨v, rfl, ho, hb⟩
  have HO := Aside0.mk ho
  have HB4 := Aside0.mk hb
  clear ho hb
  go_wp2_with fail
  go_ret
  exact ⟨_, rfl, Kd.R_lower HO.out HB1.out.size, below_then HB1.out HB1.out.size HB4.out⟩
end Go.Proofs.Ytimefacdnabkdaa.Hand
