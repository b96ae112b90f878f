/- What impl.TwLines computes: the length of each write, and how many line feeds there are, of at most a million writes of at most four thousand million bytes each. -/
import Derived.Test.YtimefacdnabkdaaPWritex1
import Derived.Test.YtimefacdnabkdaaPTotalx1
import Derived.Test.YtimefacdnabkdaaBase
import Derived.Test.YtimefacdnabkdaaIt
namespace Go.Proofs.Ytimefacdnabkdaa.Hand
open Go.RowKit Go.Proofs.YtimefacdnabkdaaW.PrintWords Go.Proofs.YtimefacdnabkdaaW.PrintLast Go.Proofs.YtimefacdnabkdaaW.PrintMore
open Go.Proofs.Ytimefacdnabkdaa.Base
set_option linter.unusedVariables false
set_option linter.unusedSimpArgs false

/-- How many line feeds. -/
def lf (l : List UInt8) : Nat := (l.filter (fun b => b = 10)).length
theorem lf_snoc (l : List UInt8) (b : UInt8) : lf (l ++ [b]) = lf l + if b = 10 then 1 else 0 := by
  unfold lf; rw [List.filter_append]
  by_cases h : b = 10 <;> simp [h]
theorem lf_le (l : List UInt8) : lf l ≤ l.length := List.length_filter_le _ _

open PWrite in
theorem write_ev (s : ByteArray) (c : Int) (hc : 0 ≤ c) (hs : c + s.size ≤ 9223372036854775807) : ∀ (r p : List UInt8), s.data.toList = p ++ r →
    Ev (fun k => tw_LineCounter_Write.l0 k (bytesOf s) (bytesOf s) ((bytesOf s).length : Int) (p.length : Int) (c + lf p)) ((s.size : Int), none, c + lf s.data.toList) := by
  intro r
  induction r with
  | nil =>
    intro p hp
    have hl : (bytesOf s).length = s.size := bytesOf_length s
    have hz : s.size = p.length := by rw [size_list, hp]; simp
    refine Ev.step (f := fun _ => some _) (fun k => ?_) (Ev.now _)
    simp only [tw_LineCounter_Write.l0]
    rw [if_neg (by rw [hl, hz]; omega), hl]
    rw [hp]; simp
  | cons b r ih =>
    intro p hp
    have hl : (bytesOf s).length = s.size := bytesOf_length s
    have hz : s.size = p.length + r.length + 1 := by rw [size_list, hp]; simp; omega
    have key := ih (p ++ [b]) (by rw [hp]; simp)
    have hle := lf_le p
    have hrd : rd (bytesOf s) (p.length : Int) = (b.toNat : Int) := by
      rw [rd_bytesOf, bt_list, hp]; simp [List.getD]
    refine Ev.step (f := fun k => tw_LineCounter_Write.l0 k (bytesOf s) (bytesOf s) ((bytesOf s).length : Int) ((p ++ [b]).length : Int) (c + lf (p ++ [b]))) (fun k => ?_) key
    simp only [tw_LineCounter_Write.l0]
    rw [if_pos (by omega), if_pos (by omega), if_pos (by omega), hrd, succ_len (q := b) (by omega), lf_snoc]
    by_cases h : b = 10
    · subst h
      rw [if_pos (by decide), if_pos rfl, wrap64_id (by omega) (by omega)]
      congr 1
      omega
    · rw [if_neg (by intro e; apply h; have : b.toNat = 10 := by omega
                     exact UInt8.toNat_inj.1 this), if_neg h]
      congr 1

def lfs (l : List ByteArray) : Nat := (l.map fun x => lf x.data.toList).sum
theorem lfs_le : ∀ (m : List ByteArray), (∀ x ∈ m, x.size ≤ 4000000000) → lfs m ≤ m.length * 4000000000 := by
  intro m
  induction m with
  | nil => intro _; exact Nat.zero_le _
  | cons y m ih =>
    intro hm
    have h2 := ih (fun x hx => hm x (by simp [hx]))
    have h3 := lf_le y.data.toList
    have h4 := hm y (by simp)
    have h5 : y.data.toList.length = y.size := by simp
    have h6 : lfs (y :: m) = lf y.data.toList + lfs m := by unfold lfs; simp
    rw [h6, List.length_cons]
    omega
def impl_TwLines.f (l0 : List ByteArray) : Option (List Int × Int × Bool) :=
  if l0.length ≤ 1000000 ∧ (∀ x ∈ l0, x.size ≤ 4000000000) then some (l0.map (fun x => (x.size : Int)), (lfs l0 : Int), true) else none
theorem info3 : (Try.prog.info? 3).map (fun i => (i.zero, i.size, i.bytes)) = some (some (.int .i64 0), 1, 8) := by kernel_rfl

set_option maxHeartbeats 8000000 in
set_option maxRecDepth 100000 in
theorem impl_TwLines.calls (A0 : Option Addr) (c0 : Nat) (l0 : List ByteArray) (r1 : List Int) (r2 : Int) (r3 : Bool) (w : World) (hr0 : Kd.C Kd.string w A0 l0.length l0) (hc0 : l0.length ≤ c0) (h : impl_TwLines.f l0 = some (r1, r2, r3)) :
    Calls Try.prog 14 #[.slice A0 l0.length c0] w fun e w' => ∃ v0_ : Value, e = .returned (.tuple #[v0_, .int .i64 r2, .bool r3]) ∧ Kd.R (Kd.int .i64) 3 w' w.heap.size (fun _ => True) v0_ r1 ∧ Below w.heap.size w w' := by
  unfold impl_TwLines.f at h
  split at h
  case isFalse => cases h
  rename_i hcond
  have HCOND := Aside0.mk hcond
  have hlen := hcond.1
  clear hcond
  have HE := Aside0.mk h
  clear h
  have HR := Aside0.mk hr0
  clear hr0 hc0
  have HB := Aside0.mk (Below.refl w.heap.size w)
  go_enter Try.func14, Try.ntmps14
  go_wp2_with (first
    | ((with_reducible refine gate_dst (N := 5) rfl ?_); refine box_event ?hg (N := 5) ?hd (cs := #[.int .i64 0]) (t := 44) ?hr ?_; (case hd => rfl); (case hg => rfl); (case hr => first | (go_simp; done) | (go_simp; rfl)); intro gc hgc w1 hbox hb1; have GE := Aside0.mk (show w.heap.size ≤ gc from Nat.le_of_eq hgc.symm); clear hgc)
    | ((with_reducible refine gate_dst (N := 11) rfl ?_); refine Kd.R_lit (Kd.int .i64) w.heap.size 3 ?hg (N := 11) ?hd (xs := []) (inner := []) (ok := fun _ => True) (okp := fun _ => True) ?hr (Reps.none _ _) (fun _ hk => hk) trivial (w0 := w) ?hb ?hs (by simp) ?_; (case hd => rfl); (case hg => rfl); (case hr => first | (go_simp; done) | (go_simp; rfl)); (case hb => exact hb1); (case hs => exact hb1.size); intro v6 w2 ho hb2 hg2 hn2))
  go_loopg [6, 14] l0.length (fun kq v6 v14 w' => ∃ i : Nat, v14 = .int .i64 (i : Int) ∧ Aside0 (i + kq = l0.length) ∧ Aside0 (Kd.R (Kd.int .i64) 3 w' w.heap.size (fun _ => True) v6 ((l0.take i).map (fun x => (x.size : Int)))) ∧ Aside0 (w'.heap[gc]? = some (.cells #[.int .i64 (lfs (l0.take i))] 44 (0, 0))) ∧ Aside0 (Below w.heap.size w w'))
  case atStart => exact ⟨0, rfl, ⟨by omega⟩, ⟨ho⟩, ⟨blk_grown hbox hg2 (by simp)⟩, ⟨hb2⟩⟩
  case round =>
    clear hbox hb1 ho hb2 hg2 hn2 HB
    obtain ⟨i, rfl, HI, HO, BK, HB⟩ := hrel
    by_cases hi : i < l0.length
    · obtain ⟨ad, e, hx⟩ := Kd.at_string HR.out (i : Int) (by omega) (by omega)
      cases e
      obtain ⟨s, hs⟩ : ∃ s, rdOf ByteArray.empty l0 (i : Int) = s := ⟨_, rfl⟩
      rw [hs, Int.toNat_natCast] at hx
      have hs' : l0[i] = s := by rw [← hs]; simp [rdOf, List.getD, hi]
      have hss : s.size ≤ 4000000000 := HCOND.out.2 s (by rw [← hs']; exact List.getElem_mem hi)
      have htk : l0.take (i + 1) = l0.take i ++ [s] := by rw [List.take_succ_eq_append_getElem hi, hs']
      have hlf : lfs (l0.take (i + 1)) = lfs (l0.take i) + lf s.data.toList := by rw [htk]; unfold lfs; simp
      have hbd : lfs (l0.take i) ≤ 4000000000000000 := by
        have h2 := lfs_le (l0.take i) (fun x hx => HCOND.out.2 x (List.mem_of_mem_take hx))
        rw [List.length_take] at h2
        exact Nat.le_trans h2 (Nat.le_trans (Nat.mul_le_mul_right 4000000000 (show min i l0.length ≤ 1000000 by omega)) (by decide))
      have HLF := Aside0.mk hlf
      have HTK := Aside0.mk htk
      obtain ⟨kw, hkw⟩ := (write_ev s (lfs (l0.take i) : Int) (by omega) (by omega) s.data.toList [] rfl).rounds
      have HW := Aside0.mk (show PWrite.tw_LineCounter_Write.f kw (lfs (l0.take i) : Int) (bytesOf s) = some ((s.size : Int), none, ((lfs (l0.take i) + lf s.data.toList : Nat) : Int)) by
        unfold PWrite.tw_LineCounter_Write.f
        rw [show (((lfs (l0.take i) + lf s.data.toList : Nat) : Int)) = (lfs (l0.take i) : Int) + lf s.data.toList by omega]
        exact hkw)
      clear hkw hlf htk hs hs' hbd
      generalize lfs (l0.take i) = cnt at *
      generalize hxs : (l0.take i).map (fun x => (x.size : Int)) = xs at *
      have HXS := Aside0.mk hxs
      clear hxs
      have hxl : xs.length ≤ i := by rw [← HXS.out, List.length_map, List.length_take]; omega
      replace hx := (HB.out.cell (World.block_lt_of_cell? w _ hx)).trans hx
      have p1 : decide ((i : Int) < (l0.length : Int)) = true := decide_eq_true (by omega)
      go_wp2_with (first
        | ((with_reducible refine gate_dst (N := 20) rfl ?_); refine It.conv_event ?hg (N := 20) ?hd (s := s) rfl Try.underlying9 Try.underlying49 Try.underlying5 ?hr (by omega) ?_; (case hd => rfl); (case hg => rfl); (case hr => first | rfl | (go_simp; done) | (go_simp; rfl)); intro A1 c1 w3 hC hc hb3 hA; have HA1 := Aside0.mk hA; have HC1 := Aside0.mk hC; have HC2 := Aside0.mk hc))
      clear hC hc hA
      refine (PWrite.tw_LineCounter_Write.calls kw gc (cnt : Int) A1 c1 (bytesOf s) (s.size : Int) none ((cnt + lf s.data.toList : Nat) : Int) w w3 ⟨blk_below BK.out hb3, GE.out⟩ ((below_then HB.out HB.out.size hb3)) HC1.out HC2.out ?_ HW.out).mono ?_
      · intro ad' e' _ heq
        have h1 := HA1.out ad' e'
        have h2 := blk_lt BK.out
        omega
      rintro e w4 ⟨rfl, hI, hb4, hk4⟩
      simp only [PWrite.errW_none]
      have BK4 := Aside0.mk hI.1
      have HO4 := Aside0.mk (Kd.R_keep (Kd.R_below (Kd.R_types HO.out BK.out (by decide)) hb3) hk4 (fun k hk => hk.2))
      have HB4 := Aside0.mk hb4
      clear hI hb4 hk4 HC1 HC2 HA1 HO BK HB hb3 hx
      go_wp2_with (first
        | ((with_reducible refine gate_builtin (b := .append) (xs := #[.tmp 26, .tmp 28]) rfl ?_); at_builtin; refine Kd.R_append (Kd.int .i64) (w0 := w) w.heap.size rfl (.tmp 26) (.tmp 28) 29 3 (.int .i64 0) 8 rfl Try.underlying29 info3 rfl (by decide) (by omega) u6 xs (s.size : Int) [.int .i64 (s.size : Int)] (fun _ => True) (fun _ => False) rfl rfl ?aP (fun _ hk => hk.elim) ?aF ?aO ?aB ?aS ?aL ?_; (case aP => exact rfl); (case aF => exact (fun _ _ => trivial)); (case aO => exact (Kd.R_mono HO4.out (fun _ _ => trivial))); (case aB => exact HB4.out); (case aS => exact HB4.out.size); (case aL => omega); intro v5 w5 ho hb hg hat))
      go_roundg (gk - 1)
      case measure => have := HI.out; omega
      case rel => exact ⟨i + 1, by go_num, ⟨by have := HI.out; omega⟩, ⟨by rw [HTK.out, List.map_append, HXS.out]; exact ho⟩, ⟨by rw [HLF.out]; exact blk_grown BK4.out hg (Kd.R_ne HO4.out BK4.out (by decide))⟩, ⟨hb⟩⟩
    · have hii : i = l0.length := by have := HI.out; omega
      have HE2 := Aside0.mk (show some ((l0.take i).map (fun x => (x.size : Int)), (lfs (l0.take i) : Int), true) = some (r1, r2, r3) by rw [hii, List.take_length]; exact HE.out)
      clear hii HE
      generalize lfs (l0.take i) = cnt at *
      generalize (l0.take i).map (fun x => (x.size : Int)) = xs at *
      have p1 : decide ((i : Int) < (l0.length : Int)) = false := decide_eq_false (by omega)
      go_wp2_with fail
      refine (PTotal.tw_LineCounter_Total.calls gc (cnt : Int) (cnt : Int) (cnt : Int) w wr ⟨BK.out, GE.out⟩ HB.out rfl).mono ?_
      rintro e w4 ⟨rfl, hI, hb4, hk4⟩
      have HO4 := Aside0.mk (Kd.R_keep (Kd.R_types HO.out BK.out (by decide)) hk4 (fun k hk => hk.2))
      have HB4 := Aside0.mk hb4
      clear hI hb4 hk4 HO BK HB
      go_wp2_with fail
      go_ret3
      have he := HE2.out
      simp only [Option.some.injEq, Prod.mk.injEq] at he
      obtain ⟨rfl, rfl, rfl⟩ := he
      exact ⟨_, rfl, Kd.R_mono HO4.out (fun _ _ => trivial), HB4.out⟩

end Go.Proofs.Ytimefacdnabkdaa.Hand
