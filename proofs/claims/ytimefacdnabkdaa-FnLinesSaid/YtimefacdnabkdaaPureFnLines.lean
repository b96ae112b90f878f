/- A counter of lines counts line feeds, and tells of each write its length: at most 200 writes. -/
import Derived.Test.YtimefacdnabkdaaPFnLinesx1
import Derived.Test.YtimefacdnabkdaaBase
namespace Go.Proofs.Ytimefacdnabkdaa.Pure
open Go.RowKit Go.Proofs.Ytimefacdnabkdaa.PFnLines Go.Proofs.YtimefacdnabkdaaW.PrintWords Go.Proofs.YtimefacdnabkdaaW.PrintLast Go.Proofs.YtimefacdnabkdaaW.PrintMore
open Go.Proofs.Ytimefacdnabkdaa.Base Go.Proofs.Ytimefacdnabkdaa.Hand

theorem fits4_l0 (l : List ByteArray) (hl : l.length ≤ 2147483647) : ∀ (r p : List ByteArray), l = p ++ r →
    ∃ b, (b = true → ∀ x ∈ r, x.size ≤ 2147483647) ∧ Ev (fun k => laws_zzFits4.l0 k l (l.length : Int) (p.length : Int)) b := by
  intro r
  induction r with
  | nil =>
    intro p hp
    refine ⟨true, fun _ x hx => by simp at hx, Ev.step (f := fun _ => some true) (fun k => ?_) (Ev.now _)⟩
    simp only [laws_zzFits4.l0]
    rw [if_neg (by rw [hp]; simp)]
  | cons q r ih =>
    intro p hp
    have hlen : l.length = p.length + r.length + 1 := by rw [hp]; simp; omega
    have hrd : rdOf ByteArray.empty l (p.length : Int) = q := by rw [hp]; simp [rdOf, List.getD]
    obtain ⟨b, hb, hev⟩ := ih (p ++ [q]) (by rw [hp]; simp)
    by_cases hq : (q.size : Int) > 2147483647
    · refine ⟨false, (fun h => by cases h), Ev.step (f := fun _ => some false) (fun k => ?_) (Ev.now _)⟩
      simp only [laws_zzFits4.l0]
      rw [if_pos (by omega), if_pos (by omega), if_pos (by omega), hrd, if_pos hq]
    · refine ⟨b, fun h x hx => ?_, Ev.step (f := fun k => laws_zzFits4.l0 k l (l.length : Int) ((p ++ [q]).length : Int)) (fun k => ?_) hev⟩
      · rcases List.mem_cons.1 hx with rfl | hx
        · omega
        · exact hb h x hx
      · simp only [laws_zzFits4.l0]
        rw [if_pos (by omega), if_pos (by omega), if_pos (by omega), hrd, if_neg hq, succ_len (q := q) (by omega)]
theorem fits4_ev (l : List ByteArray) : ∃ b, (b = true → l.length ≤ 2147483647 ∧ ∀ x ∈ l, x.size ≤ 2147483647) ∧ Ev (fun k => laws_zzFits4.f k l) b := by
  unfold laws_zzFits4.f
  by_cases h : (l.length : Int) > 2147483647
  · exact ⟨false, (fun h => by cases h), Ev.congr (f := fun _ => some false) (fun k => by rw [if_pos h]) (Ev.now _)⟩
  · obtain ⟨b, hb, hev⟩ := fits4_l0 l (by omega) l [] rfl
    exact ⟨b, fun e => ⟨by omega, hb e⟩, Ev.congr (f := fun k => laws_zzFits4.l0 k l (l.length : Int) 0) (fun k => by rw [if_neg h]) hev⟩

theorem lfs_snoc (l : List ByteArray) (x : ByteArray) : lfs (l ++ [x]) = lfs l + lf x.data.toList := by unfold lfs; simp

theorem lines_l2 (l : List ByteArray) (hl : l.length ≤ 200) : ∀ (r p : List ByteArray), l = p ++ r →
    Ev (fun k => laws_FnLines.l2 k l (l.map (fun x => (x.size : Int))) (p.length : Int)) true := by
  intro r
  induction r with
  | nil =>
    intro p hp
    refine Ev.step (f := fun _ => some true) (fun k => ?_) (Ev.now _)
    simp only [laws_FnLines.l2]
    rw [if_neg (by rw [hp]; simp)]
  | cons q r ih =>
    intro p hp
    have hlen : l.length = p.length + r.length + 1 := by rw [hp]; simp; omega
    have hrd : rdOf ByteArray.empty l (p.length : Int) = q := by rw [hp]; simp [rdOf, List.getD]
    have hrd2 : rd (l.map (fun x => (x.size : Int))) (p.length : Int) = (q.size : Int) := by rw [hp]; simp [rd, List.getD]
    refine Ev.step (f := fun k => laws_FnLines.l2 k l (l.map (fun x => (x.size : Int))) ((p ++ [q]).length : Int)) (fun k => ?_) (ih (p ++ [q]) (by rw [hp]; simp))
    simp only [laws_FnLines.l2]
    rw [if_pos (by rw [List.length_map]; omega), if_pos (by omega), if_pos (by omega), hrd, hrd2, if_pos rfl, succ_len (q := q) (by omega)]

theorem lines_l1 (l : List ByteArray) (i : Nat) (hi : i < l.length) (hl : l.length ≤ 200) (c : Nat) (hc : c ≤ 1000000000000) (hs : l[i].size ≤ 2147483647) (b : Bool)
    (next : Ev (fun k => laws_FnLines.l0 k l ((c + lf l[i].data.toList : Nat) : Int) ((i + 1 : Nat) : Int)) b) : ∀ (r p : List UInt8), l[i].data.toList = p ++ r →
    Ev (fun k => laws_FnLines.l1 k l ((c + lf p : Nat) : Int) (i : Int) (p.length : Int)) b := by
  have hrd : rdOf ByteArray.empty l (i : Int) = l[i] := by simp [rdOf, List.getD, hi]
  intro r
  induction r with
  | nil =>
    intro p hp
    have hz : l[i].size = p.length := by rw [size_list, hp]; simp
    refine Ev.step (f := fun k => laws_FnLines.l0 k l ((c + lf l[i].data.toList : Nat) : Int) ((i + 1 : Nat) : Int)) (fun k => ?_) next
    simp only [laws_FnLines.l1]
    rw [if_pos (by omega), if_pos (by omega), hrd, if_neg (by omega), wrap64_id (by omega) (by omega), hp]
    simp
  | cons q r ih =>
    intro p hp
    have hz : l[i].size = p.length + r.length + 1 := by rw [size_list, hp]; simp; omega
    have hle := lf_le p
    have hbt : bt l[i] (p.length : Int) = (q.toNat : Int) := by rw [bt_list, hp]; simp [List.getD]
    refine Ev.step (f := fun k => laws_FnLines.l1 k l ((c + lf (p ++ [q]) : Nat) : Int) (i : Int) ((p ++ [q]).length : Int)) (fun k => ?_) (ih (p ++ [q]) (by rw [hp]; simp))
    simp only [laws_FnLines.l1]
    rw [if_pos (by omega), if_pos (by omega), hrd, if_pos (by omega), if_pos (by omega), hbt, succ_len (q := q) (by omega), lf_snoc]
    by_cases h : q = 10
    · subst h
      rw [if_pos (by decide), if_pos rfl, wrap64_id (by omega) (by omega)]
      congr 1
    · rw [if_neg (by intro e; apply h; have : q.toNat = 10 := by omega
                     exact UInt8.toNat_inj.1 this), if_neg h]
      congr 1

theorem lines_l0 (l : List ByteArray) (hl : l.length ≤ 200) (hs : ∀ x ∈ l, x.size ≤ 2147483647) : ∀ (r p : List ByteArray), l = p ++ r →
    Ev (fun k => laws_FnLines.l0 k l (lfs p : Int) (p.length : Int)) true := by
  intro r
  induction r with
  | nil =>
    intro p hp
    rw [List.append_nil] at hp
    subst hp
    have h2 := lines_l2 l hl l [] rfl
    have hj : Ev (fun k => laws_FnLines.j2 k l (l.map (fun x => (x.size : Int))) false) true := by
      refine Ev.step (f := fun k => laws_FnLines.l2 k l (l.map (fun x => (x.size : Int))) 0) (fun k => ?_) h2
      simp only [laws_FnLines.j2]
      rw [if_neg (by simp)]
    refine Ev.step (f := fun k => laws_FnLines.j2 k l (l.map (fun x => (x.size : Int))) false) (fun k => ?_) hj
    simp only [laws_FnLines.l0]
    rw [if_neg (by omega)]
    unfold impl_TwLines.f
    rw [if_pos ⟨by omega, fun x hx => by have := hs x hx; omega⟩]
    simp
  | cons q r ih =>
    intro p hp
    have hlen : l.length = p.length + r.length + 1 := by rw [hp]; simp; omega
    have hq : l[p.length]'(by omega) = q := by simp [hp]
    have hps : lfs p ≤ 200 * 4000000000 := by
      have h1 := lfs_le p (fun x hx => by have := hs x (by rw [hp]; simp [hx]); omega)
      exact Nat.le_trans h1 (Nat.mul_le_mul_right _ (by omega))
    have next := ih (p ++ [q]) (by rw [hp]; simp)
    have h1 := lines_l1 l p.length (by omega) hl (lfs p) (by omega) (by rw [hq]; exact hs q (by rw [hp]; simp)) true (by rw [hq, ← lfs_snoc]; simpa using next) l[p.length].data.toList [] rfl
    refine Ev.step (f := fun k => laws_FnLines.l1 k l (lfs p : Int) (p.length : Int) 0) (fun k => ?_) h1
    simp only [laws_FnLines.l0]
    rw [if_pos (by omega)]

theorem FnLines : laws_FnLines.Pure := by
  intro l _
  obtain ⟨b, hb, hev⟩ := fits4_ev l
  have : Ev (fun k => laws_FnLines.f k l) true := by
    unfold laws_FnLines.f
    refine Ev.bind hev ?_
    cases b with
    | false => exact Ev.congr (f := fun _ => some true) (fun k => by rw [if_neg (by simp)]) (Ev.now _)
    | true =>
      by_cases h : (l.length : Int) > 200
      · exact Ev.congr (f := fun _ => some true) (fun k => by rw [if_pos rfl, if_pos h]) (Ev.now _)
      · refine Ev.congr (f := fun k => laws_FnLines.l0 k l 0 0) (fun k => by rw [if_pos rfl, if_neg h]) (lines_l0 l (by omega) (hb rfl).2 l [] rfl)
  exact this.rounds

end Go.Proofs.Ytimefacdnabkdaa.Pure
