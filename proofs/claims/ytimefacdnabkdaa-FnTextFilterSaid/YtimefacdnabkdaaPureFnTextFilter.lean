/- The texts that a predicate is true of (those that are among others) are told, in order: lists of at most 200 texts. -/
import Derived.Test.YtimefacdnabkdaaPFnTextFilterx1
import Derived.Test.YtimefacdnabkdaaBase
namespace Go.Proofs.Ytimefacdnabkdaa.Pure
open Go.RowKit Go.Proofs.Ytimefacdnabkdaa.PFnTextFilter Go.Proofs.YtimefacdnabkdaaW.PrintWords Go.Proofs.YtimefacdnabkdaaW.PrintLast Go.Proofs.YtimefacdnabkdaaW.PrintMore
open Go.Proofs.Ytimefacdnabkdaa.Base Go.Proofs.Ytimefacdnabkdaa.Hand

theorem fits4_l0 (l : List ByteArray) (hl : l.length ≤ 2147483647) : ∀ (r p : List ByteArray), l = p ++ r →
    ∃ b, (b = true → ∀ x ∈ r, x.size ≤ 2147483647) ∧ Ev (fun k => laws_zzFits4.l0 k l (l.length : Int) (p.length : Int)) b := by
  intro r
  induction r with
  | nil =>
    intro p hp
    refine ⟨true, fun _ x hx => by simp at hx, Ev.step (f := fun _ => some true) (fun k => ?_) (Ev.now _)⟩
    simp only [laws_zzFits4.l0]
    rw [if_neg (by rw [hp]; simp)]
  | cons q r ih =>
    intro p hp
    have hlen : l.length = p.length + r.length + 1 := by rw [hp]; simp; omega
    have hrd : rdOf ByteArray.empty l (p.length : Int) = q := by rw [hp]; simp [rdOf, List.getD]
    obtain ⟨b, hb, hev⟩ := ih (p ++ [q]) (by rw [hp]; simp)
    by_cases hq : (q.size : Int) > 2147483647
    · refine ⟨false, (fun h => by cases h), Ev.step (f := fun _ => some false) (fun k => ?_) (Ev.now _)⟩
      simp only [laws_zzFits4.l0]
      rw [if_pos (by omega), if_pos (by omega), if_pos (by omega), hrd, if_pos hq]
    · refine ⟨b, fun h x hx => ?_, Ev.step (f := fun k => laws_zzFits4.l0 k l (l.length : Int) ((p ++ [q]).length : Int)) (fun k => ?_) hev⟩
      · rcases List.mem_cons.1 hx with rfl | hx
        · omega
        · exact hb h x hx
      · simp only [laws_zzFits4.l0]
        rw [if_pos (by omega), if_pos (by omega), if_pos (by omega), hrd, if_neg hq, succ_len (q := q) (by omega)]
theorem fits4_ev (l : List ByteArray) : ∃ b, (b = true → l.length ≤ 2147483647 ∧ ∀ x ∈ l, x.size ≤ 2147483647) ∧ Ev (fun k => laws_zzFits4.f k l) b := by
  unfold laws_zzFits4.f
  by_cases h : (l.length : Int) > 2147483647
  · exact ⟨false, (fun h => by cases h), Ev.congr (f := fun _ => some false) (fun k => by rw [if_pos h]) (Ev.now _)⟩
  · obtain ⟨b, hb, hev⟩ := fits4_l0 l (by omega) l [] rfl
    exact ⟨b, fun e => ⟨by omega, hb e⟩, Ev.congr (f := fun k => laws_zzFits4.l0 k l (l.length : Int) 0) (fun k => by rw [if_neg h]) hev⟩

theorem same_l0 (a : List ByteArray) (ha : a.length ≤ 4611686018427387904) : ∀ (r p : List ByteArray), a = p ++ r → Ev (fun k => spec_TxSameTexts.l0 k a a (a.length : Int) (p.length : Int)) true := by
  intro r
  induction r with
  | nil =>
    intro p hp
    refine Ev.step (f := fun _ => some true) (fun k => ?_) (Ev.now _)
    simp only [spec_TxSameTexts.l0]
    rw [if_neg (by rw [hp]; simp)]
  | cons q r ih =>
    intro p hp
    have hlen : a.length = p.length + r.length + 1 := by rw [hp]; simp; omega
    refine Ev.step (f := fun k => spec_TxSameTexts.l0 k a a (a.length : Int) ((p ++ [q]).length : Int)) (fun k => ?_) (ih (p ++ [q]) (by rw [hp]; simp))
    simp only [spec_TxSameTexts.l0]
    rw [if_pos (by omega), if_pos (by omega), if_pos (by omega), if_pos (by omega), if_pos trivial, succ_len (q := q) (by omega)]
/-- The same texts are told to be the same. -/
theorem same_ev (a : List ByteArray) (ha : a.length ≤ 4611686018427387904) : Ev (fun k => spec_TxSameTexts.f k a a) true := by
  unfold spec_TxSameTexts.f
  exact Ev.congr (f := fun k => spec_TxSameTexts.l0 k a a (a.length : Int) 0) (fun k => by rw [if_pos rfl]) (same_l0 a ha a [] rfl)

theorem filt_snoc (l k : List ByteArray) (s : ByteArray) : filt (l ++ [s]) k = filt l k ++ (if amg k s = true then [s] else []) := by
  unfold filt
  rw [List.filter_append]
  congr 1
  by_cases h : amg k s = true <;> simp [h]
theorem filt_len (l k : List ByteArray) : (filt l k).length ≤ l.length := List.length_filter_le _ _

theorem filter_l1 (a b : List ByteArray) (hb : b.length ≤ 200) (i : Nat) (hi : i < 200) (s : ByteArray) (want : List ByteArray) (hw : want.length ≤ 200)
    (next : Ev (fun k => laws_FnTextFilter.l0 k a b (want ++ (if amg b s = true then [s] else [])) a (a.length : Int) ((i + 1 : Nat) : Int)) true) : ∀ (r p : List ByteArray), b = p ++ r → amg p s = false →
    Ev (fun k => laws_FnTextFilter.l1 k a b want s a (a.length : Int) (i : Int) b (b.length : Int) (p.length : Int)) true := by
  intro r
  induction r with
  | nil =>
    intro p hp hn
    rw [List.append_nil] at hp
    subst hp
    rw [hn] at next
    simp only [Bool.false_eq_true, if_false, List.append_nil] at next
    refine Ev.step (f := fun k => laws_FnTextFilter.l0 k a b want a (a.length : Int) ((i + 1 : Nat) : Int)) (fun k => ?_) next
    simp only [laws_FnTextFilter.l1]
    rw [if_neg (by omega), wrap64_id (by omega) (by omega)]
    rfl
  | cons q r ih =>
    intro p hp hn
    have hlen : b.length = p.length + r.length + 1 := by rw [hp]; simp; omega
    have hrd : rdOf ByteArray.empty b (p.length : Int) = q := by rw [hp]; simp [rdOf, List.getD]
    by_cases hq : s = q
    · have hyes : amg b s = true := by rw [hp]; unfold amg; simp [hq]
      rw [hyes] at next
      simp only [if_true] at next
      refine Ev.step (f := fun k => laws_FnTextFilter.l0 k a b (want ++ [s]) a (a.length : Int) ((i + 1 : Nat) : Int)) (fun k => ?_) next
      simp only [laws_FnTextFilter.l1]
      rw [if_pos (by omega), if_pos (by omega), if_pos (by omega), hrd, if_pos (by rw [hq]), if_pos (by omega), wrap64_id (by omega) (by omega)]
      rfl
    · have hne : s.toList ≠ q.toList := by
        intro e; apply hq; rw [toList_data, toList_data] at e; exact bytes_ext e
      refine Ev.step (f := fun k => laws_FnTextFilter.l1 k a b want s a (a.length : Int) (i : Int) b (b.length : Int) ((p ++ [q]).length : Int)) (fun k => ?_) (ih (p ++ [q]) (by rw [hp]; simp) (by
        unfold amg at hn ⊢
        rw [List.any_append, hn]
        have : (q.data.toList == s.data.toList) = false := beq_eq_false_iff_ne.mpr (fun e => hq (bytes_ext e.symm))
        rw [List.any_cons, this]; rfl))
      simp only [laws_FnTextFilter.l1]
      rw [if_pos (by omega), if_pos (by omega), if_pos (by omega), hrd, if_neg hne, succ_len (q := q) (by omega)]

theorem filter_l0 (a b : List ByteArray) (ha : a.length ≤ 200) (hb : b.length ≤ 200) : ∀ (r p : List ByteArray), a = p ++ r →
    Ev (fun k => laws_FnTextFilter.l0 k a b (filt p b) a (a.length : Int) (p.length : Int)) true := by
  intro r
  induction r with
  | nil =>
    intro p hp
    rw [List.append_nil] at hp
    subst hp
    have hl := filt_len a b
    refine Ev.step (f := fun k => (spec_TxSameTexts.f k (filt a b) (filt a b)).bind fun t109 => some t109) (fun k => ?_) (Ev.bind (same_ev (filt a b) (by omega)) (Ev.now _))
    simp only [laws_FnTextFilter.l0]
    rw [if_neg (by omega)]
    unfold impl_TextFilter.f
    rw [if_pos ⟨by omega, by omega⟩]
    simp
  | cons q r ih =>
    intro p hp
    have hlen : a.length = p.length + r.length + 1 := by rw [hp]; simp; omega
    have hrd : rdOf ByteArray.empty a (p.length : Int) = q := by rw [hp]; simp [rdOf, List.getD]
    have hl := filt_len p b
    have next := ih (p ++ [q]) (by rw [hp]; simp)
    rw [filt_snoc] at next
    have h1 := filter_l1 a b hb p.length (by omega) q (filt p b) (by omega) (by simpa using next) b [] rfl rfl
    refine Ev.step (f := fun k => laws_FnTextFilter.l1 k a b (filt p b) q a (a.length : Int) (p.length : Int) b (b.length : Int) 0) (fun k => ?_) h1
    simp only [laws_FnTextFilter.l0]
    rw [if_pos (by omega), if_pos (by omega), if_pos (by omega), hrd]

theorem filter_j1 (a b : List ByteArray) (e : Bool) (h : e = false → a.length ≤ 200 ∧ b.length ≤ 200) : Ev (fun k => laws_FnTextFilter.j1 k a b e) true := by
  cases e with
  | true =>
    refine Ev.step (f := fun _ => some true) (fun k => ?_) (Ev.now _)
    simp only [laws_FnTextFilter.j1]
    rw [if_pos trivial]
  | false =>
    obtain ⟨ha, hb⟩ := h rfl
    refine Ev.step (f := fun k => laws_FnTextFilter.l0 k a b [] a (a.length : Int) 0) (fun k => ?_) (filter_l0 a b ha hb a [] rfl)
    simp only [laws_FnTextFilter.j1]
    rw [if_neg (by simp)]
theorem filter_j0 (a b : List ByteArray) (e : Bool) : Ev (fun k => laws_FnTextFilter.j0 k a b e) true := by
  cases e with
  | true =>
    refine Ev.step (f := fun _ => some true) (fun k => ?_) (Ev.now _)
    simp only [laws_FnTextFilter.j0]
    rw [if_pos trivial]
  | false =>
    by_cases h1 : (a.length : Int) > 200
    · refine Ev.step (f := fun k => laws_FnTextFilter.j1 k a b true) (fun k => ?_) (filter_j1 a b true (by simp))
      simp only [laws_FnTextFilter.j0]
      rw [if_neg (by simp), if_pos h1]
    · refine Ev.step (f := fun k => laws_FnTextFilter.j1 k a b (decide ((b.length : Int) > 200))) (fun k => ?_) (filter_j1 a b _ (fun h => ⟨by omega, by have := of_decide_eq_false h; omega⟩))
      simp only [laws_FnTextFilter.j0]
      rw [if_neg (by simp), if_neg h1]

theorem FnTextFilter : laws_FnTextFilter.Pure := by
  intro a b _ _
  obtain ⟨x, _, hx⟩ := fits4_ev a
  obtain ⟨y, _, hy⟩ := fits4_ev b
  have : Ev (fun k => laws_FnTextFilter.f k a b) true := by
    unfold laws_FnTextFilter.f
    refine Ev.bind hx ?_
    cases x with
    | false => exact Ev.congr (f := fun k => laws_FnTextFilter.j0 k a b true) (fun k => by rw [if_neg (by simp)]) (filter_j0 a b true)
    | true => exact Ev.congr (f := fun k => (laws_zzFits4.f k b).bind fun t105 => laws_FnTextFilter.j0 k a b (!t105)) (fun k => by rw [if_pos rfl]) (Ev.bind hy (filter_j0 a b _))
  exact this.rounds

end Go.Proofs.Ytimefacdnabkdaa.Pure
