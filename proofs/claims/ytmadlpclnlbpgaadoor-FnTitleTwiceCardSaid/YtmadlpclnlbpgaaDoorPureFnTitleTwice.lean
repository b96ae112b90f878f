/- A title's title is the title: over plain text, the law's function answers true. -/
import Derived.Test.YtmadlpclnlbpgaaDoorPFnTitleTwicex1
import Derived.Test.YtmadlpclnlbpgaaDoorBase
namespace Go.Proofs.YtmadlpclnlbpgaaDoor.Pure
open Go.RowKit Go.Proofs.YtmadlpclnlbpgaaDoor.PFnTitleTwice Go.Proofs.YtmadlpclnlbpgaaDoorW.PrintWords Go.Proofs.YtmadlpclnlbpgaaDoorW.PrintLast Go.Proofs.YtmadlpclnlbpgaaDoorW.PrintMore
open Go.Proofs.YtmadlpclnlbpgaaDoor.Base Go.Proofs.YtmadlpclnlbpgaaDoor.Hand
set_option linter.unusedSimpArgs false
set_option linter.unusedVariables false

/-- What is plain is ASCII. -/
theorem plain_l0 (s : ByteArray) (hs : s.size ≤ 2147483647) : ∀ (d i : Nat), i + d = s.size →
    ∃ b, Ev (fun k => spec_TwPlain.l0 k s (i : Int)) b ∧ (b = true → ∀ c ∈ s.data.toList.drop i, c.toNat ≤ 126) := by
  intro d
  induction d with
  | zero =>
    intro i h
    refine ⟨true, Ev.step (f := fun _ => some true) (fun k => ?_) (Ev.now _), fun _ c hc => ?_⟩
    · simp only [spec_TwPlain.l0]
      rw [if_neg (by omega)]
    · rw [List.drop_eq_nil_of_le (by rw [← size_list]; omega)] at hc
      cases hc
  | succ d ih =>
    intro i h
    have hi : i < s.data.toList.length := by rw [← size_list]; omega
    have hb : bt s (i : Int) = ((s.data.toList[i]).toNat : Int) := by
      rw [bt_list, Int.toNat_natCast, List.getD, List.getElem?_eq_getElem hi]
      rfl
    by_cases h1 : bt s (i : Int) < 32
    · refine ⟨false, Ev.step (f := fun _ => some false) (fun k => ?_) (Ev.now _), fun h => by cases h⟩
      simp only [spec_TwPlain.l0]
      rw [if_pos (by omega), if_pos (by omega), if_pos h1]
    · by_cases h2 : bt s (i : Int) > 126
      · refine ⟨false, Ev.step (f := fun _ => some false) (fun k => ?_) (Ev.now _), fun h => by cases h⟩
        simp only [spec_TwPlain.l0]
        rw [if_pos (by omega), if_pos (by omega), if_neg h1, if_pos h2]
      · obtain ⟨b, e, g⟩ := ih (i + 1) (by omega)
        refine ⟨b, Ev.step (f := fun k => spec_TwPlain.l0 k s ((i + 1 : Nat) : Int)) (fun k => ?_) e, fun hb2 c hc => ?_⟩
        · simp only [spec_TwPlain.l0]
          rw [if_pos (by omega), if_pos (by omega), if_neg h1, if_neg h2, wrap64_id (by omega) (by omega)]
          rfl
        · rw [List.drop_eq_getElem_cons hi] at hc
          rcases List.mem_cons.1 hc with e2 | e2
          · rw [e2]; omega
          · exact g hb2 c e2
theorem plain_some (s : ByteArray) (hs : s.size ≤ 2147483647) : ∃ b, Ev (fun k => spec_TwPlain.f k s) b ∧ (b = true → Ascii s) := by
  obtain ⟨b, e, g⟩ := plain_l0 s hs s.size 0 (by omega)
  exact ⟨b, e, fun h c hc => by have := g h c (by simpa using hc); omega⟩
theorem ascii_b {s : ByteArray} (h : Ascii s) : asciiB s = true := List.all_eq_true.2 fun b hb => decide_eq_true (h b hb)
theorem trimT_len (l : List UInt8) : (trimT l).length ≤ l.length + 1 := by
  unfold trimT
  split
  · simp
  · have := trim_le l; omega
theorem title_len (l : List UInt8) : (titleT l).length ≤ l.length + 1 := by
  unfold titleT Lib.toUpperA
  rw [List.length_map]
  have := trimT_len (passT none l)
  rw [pass_len] at this
  exact this
theorem up_ascii {b : UInt8} (h : b.toNat < 128) : (Lib.upperB b).toNat < 128 := by
  have : ∀ n : Fin 256, n.val < 128 → (Lib.upperB (UInt8.ofNat n.val)).toNat < 128 := by decide +kernel
  have := this ⟨b.toNat, b.toNat_lt⟩ h
  simpa using this
theorem title_ascii {s : ByteArray} (h : Ascii s) : Ascii ⟨(titleT s.data.toList).toArray⟩ := by
  intro b hb
  have hb : b ∈ titleT s.data.toList := hb
  unfold titleT Lib.toUpperA at hb
  obtain ⟨c, hc, rfl⟩ := List.mem_map.1 hb
  refine up_ascii ?_
  unfold trimT at hc
  split at hc
  · have : c = 32 := by simpa using hc
    rw [this]; decide
  · exact pass_ascii _ none h c (trim_mem _ c hc)
theorem title_f {s : ByteArray} (h : Ascii s) (hs : s.size ≤ 1000000) : impl_TwTitle.f s = some ⟨(titleT s.data.toList).toArray⟩ := by
  unfold impl_TwTitle.f
  rw [if_pos ⟨hs, ascii_b h⟩]
theorem twice_j0 (s : ByteArray) (h : Ascii s) (hs : s.size ≤ 1000) : Ev (fun k => laws_FnTitleTwice.j0 k s false) true := by
  refine Ev.step (f := fun _ => some true) (fun k => ?_) (Ev.now _)
  simp only [laws_FnTitleTwice.j0]
  obtain ⟨t, ht⟩ : ∃ t : ByteArray, (⟨(titleT s.data.toList).toArray⟩ : ByteArray) = t := ⟨_, rfl⟩
  have htl : t.data.toList = titleT s.data.toList := by rw [← ht]
  have h2 : Ascii t := by rw [← ht]; exact title_ascii h
  have hz : t.size ≤ 1001 := by
    rw [size_list, htl]
    have := title_len s.data.toList
    rw [← size_list] at this
    omega
  have e2 : titleT t.data.toList = titleT s.data.toList := by rw [htl, title_idem]
  have f1 := title_f h (by omega)
  have f2 := title_f h2 (by omega)
  rw [e2] at f2
  rw [ht] at f1 f2
  have f3 : spec_TwUpper.f t = some t := by
    unfold spec_TwUpper.f
    rw [if_pos (by omega)]
    congr 1
    apply bytes_ext
    show Lib.toUpperA t.data.toList = _
    rw [htl, title_up]
  rw [if_neg (by decide), f1]
  simp only [Option.bind_some]
  rw [f2]
  simp only [Option.bind_some]
  rw [f2]
  simp only [Option.bind_some]
  rw [if_pos True.intro, f3]
  simp only [Option.bind_some]
  rw [if_pos True.intro]
  split
  · rfl
  · rename_i hne
    rw [toList_data] at hne
    have := title_ne s.data.toList hne
    rw [toList_data, htl]
    congr 1
    simpa using this

/- ∀ (a0 : ByteArray), a0.size ≤ 140737488351232 → ∃ k, laws_FnTitleTwice.f k a0 = some true -/
theorem FnTitleTwice : laws_FnTitleTwice.Pure := by
  intro s hs
  have go : Ev (fun k => laws_FnTitleTwice.f k s) true := by
    by_cases h1 : (s.size : Int) > 2147483647
    · refine Ev.congr (f := fun _ => some true) (fun k => ?_) (Ev.now _)
      unfold laws_FnTitleTwice.f
      rw [if_pos h1]
    · obtain ⟨b, e, g⟩ := plain_some s (by omega)
      refine Ev.congr (fun k => by unfold laws_FnTitleTwice.f; rw [if_neg h1]) (Ev.bind e ?_)
      have yes : Ev (fun k => laws_FnTitleTwice.j0 k s true) true := by
        refine Ev.step (f := fun _ => some true) (fun k => ?_) (Ev.now _)
        simp only [laws_FnTitleTwice.j0]
        rw [if_pos True.intro]
      cases b with
      | false => exact Ev.congr (fun k => by rw [if_neg (by decide)]) yes
      | true =>
        refine Ev.congr (fun k => by rw [if_pos rfl]) ?_
        by_cases h2 : (s.size : Int) > 300
        · rw [decide_eq_true h2]; exact yes
        · rw [decide_eq_false h2]; exact twice_j0 s (g rfl) (by omega)
  exact go.rounds

end Go.Proofs.YtmadlpclnlbpgaaDoor.Pure
