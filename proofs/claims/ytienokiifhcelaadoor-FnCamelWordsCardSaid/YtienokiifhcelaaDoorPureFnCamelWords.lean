/- Words with one underscore or blank between each two are divided as each by itself: the law's function answers true. -/
import Derived.Test.YtienokiifhcelaaDoorPFnCamelWordsx2
import Derived.Test.YtienokiifhcelaaDoorBase
namespace Go.Proofs.YtienokiifhcelaaDoor.Pure
open Go.RowKit Go.Proofs.YtienokiifhcelaaDoor.PFnCamelWords Go.Proofs.YtienokiifhcelaaDoorW.PrintWords Go.Proofs.YtienokiifhcelaaDoorW.PrintLast Go.Proofs.YtienokiifhcelaaDoorW.PrintMore
open Go.Proofs.YtienokiifhcelaaDoor.Base Go.Proofs.YtienokiifhcelaaDoor.Hand
set_option linter.unusedSimpArgs false
set_option linter.unusedVariables false
set_option maxRecDepth 10000

theorem fits4_l0 (l : List ByteArray) (hl : l.length ≤ 2147483647) : ∀ (r p : List ByteArray), l = p ++ r →
    ∃ b, (b = true → ∀ x ∈ r, x.size ≤ 2147483647) ∧ Ev (fun k => laws_zzFits4.l0 k l (l.length : Int) (p.length : Int)) b := by
  intro r
  induction r with
  | nil =>
    intro p hp
    refine ⟨true, fun _ x hx => by simp at hx, Ev.step (f := fun _ => some true) (fun k => ?_) (Ev.now _)⟩
    simp only [laws_zzFits4.l0]
    rw [if_neg (by rw [hp]; simp)]
  | cons q r ih =>
    intro p hp
    have hlen : l.length = p.length + r.length + 1 := by rw [hp]; simp; omega
    have hrd : rdOf ByteArray.empty l (p.length : Int) = q := by rw [hp]; simp [rdOf, List.getD]
    obtain ⟨b, hb, hev⟩ := ih (p ++ [q]) (by rw [hp]; simp)
    by_cases hq : (q.size : Int) > 2147483647
    · refine ⟨false, (fun h => by cases h), Ev.step (f := fun _ => some false) (fun k => ?_) (Ev.now _)⟩
      simp only [laws_zzFits4.l0]
      rw [if_pos (by omega), if_pos (by omega), if_pos (by omega), hrd, if_pos hq]
    · refine ⟨b, fun h x hx => ?_, Ev.step (f := fun k => laws_zzFits4.l0 k l (l.length : Int) ((p ++ [q]).length : Int)) (fun k => ?_) hev⟩
      · rcases List.mem_cons.1 hx with rfl | hx
        · omega
        · exact hb h x hx
      · simp only [laws_zzFits4.l0]
        rw [if_pos (by omega), if_pos (by omega), if_pos (by omega), hrd, if_neg hq, succ_len (q := q) (by omega)]
theorem fits4_ev (l : List ByteArray) : ∃ b, (b = true → l.length ≤ 2147483647 ∧ ∀ x ∈ l, x.size ≤ 2147483647) ∧ Ev (fun k => laws_zzFits4.f k l) b := by
  unfold laws_zzFits4.f
  by_cases h : (l.length : Int) > 2147483647
  · exact ⟨false, (fun h => by cases h), Ev.congr (f := fun _ => some false) (fun k => by rw [if_pos h]) (Ev.now _)⟩
  · obtain ⟨b, hb, hev⟩ := fits4_l0 l (by omega) l [] rfl
    exact ⟨b, fun e => ⟨by omega, hb e⟩, Ev.congr (f := fun k => laws_zzFits4.l0 k l (l.length : Int) 0) (fun k => by rw [if_neg h]) hev⟩
theorem bt_at (s : ByteArray) (i : Nat) (hi : i < s.data.toList.length) : bt s (i : Int) = ((s.data.toList[i]).toNat : Int) := by
  rw [bt_list, Int.toNat_natCast, List.getD, List.getElem?_eq_getElem hi]
  rfl
theorem kind_ev (b : UInt8) : ∃ r, Ev (fun k => spec_TwKind.f k (b.toNat : Int)) r ∧ (¬ r > 2 → cls b ≠ 4) := by
  have h1 : ∀ (x : Int), Ev (fun k => spec_TwKind.j1 k x true) 1 := fun x => Ev.step (f := fun _ => some 1) (fun k => by simp only [spec_TwKind.j1]; rw [if_pos True.intro]) (Ev.now _)
  have h0 : ∀ (x : Int), Ev (fun k => spec_TwKind.j0 k x true) 0 := fun x => Ev.step (f := fun _ => some 0) (fun k => by simp only [spec_TwKind.j0]; rw [if_pos True.intro]) (Ev.now _)
  have j1n : ∀ (c : UInt8), ∃ r, Ev (fun k => spec_TwKind.j1 k (c.toNat : Int) false) r ∧ (¬ r > 2 → 48 ≤ c.toNat ∧ c.toNat ≤ 57) := by
    intro c
    by_cases a : (c.toNat : Int) ≥ 48
    · by_cases d : (c.toNat : Int) ≤ 57
      · exact ⟨2, Ev.step (f := fun _ => some 2) (fun k => by simp only [spec_TwKind.j1]; rw [if_neg (by decide), if_pos a, if_pos d]) (Ev.now _), fun _ => by omega⟩
      · exact ⟨3, Ev.step (f := fun _ => some 3) (fun k => by simp only [spec_TwKind.j1]; rw [if_neg (by decide), if_pos a, if_neg d]) (Ev.now _), fun h => absurd (by decide) h⟩
    · exact ⟨3, Ev.step (f := fun _ => some 3) (fun k => by simp only [spec_TwKind.j1]; rw [if_neg (by decide), if_neg a]) (Ev.now _), fun h => absurd (by decide) h⟩
  have j0n : ∀ (c : UInt8), ∃ r, Ev (fun k => spec_TwKind.j0 k (c.toNat : Int) false) r ∧ (¬ r > 2 → (65 ≤ c.toNat ∧ c.toNat ≤ 90) ∨ (48 ≤ c.toNat ∧ c.toNat ≤ 57)) := by
    intro c
    obtain ⟨r, e, g⟩ := j1n c
    by_cases a : (c.toNat : Int) ≥ 65
    · by_cases d : (c.toNat : Int) ≤ 90
      · exact ⟨1, Ev.step (f := fun k => spec_TwKind.j1 k (c.toNat : Int) true) (fun k => by simp only [spec_TwKind.j0]; rw [if_neg (by decide), if_pos a, decide_eq_true d]) (h1 _), fun _ => by omega⟩
      · exact ⟨r, Ev.step (f := fun k => spec_TwKind.j1 k (c.toNat : Int) false) (fun k => by simp only [spec_TwKind.j0]; rw [if_neg (by decide), if_pos a, decide_eq_false d]) e, fun h => Or.inr (g h)⟩
    · exact ⟨r, Ev.step (f := fun k => spec_TwKind.j1 k (c.toNat : Int) false) (fun k => by simp only [spec_TwKind.j0]; rw [if_neg (by decide), if_neg a]) e, fun h => Or.inr (g h)⟩
  have c4 : ((97 ≤ b.toNat ∧ b.toNat ≤ 122) ∨ (65 ≤ b.toNat ∧ b.toNat ≤ 90) ∨ (48 ≤ b.toNat ∧ b.toNat ≤ 57)) → cls b ≠ 4 := by
    intro h
    unfold cls
    split
    · decide
    · split
      · decide
      · split
        · decide
        · omega
  obtain ⟨r, e, g⟩ := j0n b
  by_cases a : (b.toNat : Int) ≥ 97
  · by_cases d : (b.toNat : Int) ≤ 122
    · exact ⟨0, Ev.congr (fun k => by unfold spec_TwKind.f; rw [if_pos a, decide_eq_true d]) (h0 _), fun _ => c4 (Or.inl (by omega))⟩
    · exact ⟨r, Ev.congr (fun k => by unfold spec_TwKind.f; rw [if_pos a, decide_eq_false d]) e, fun h => c4 (Or.inr (g h))⟩
  · exact ⟨r, Ev.congr (fun k => by unfold spec_TwKind.f; rw [if_neg a]) e, fun h => c4 (Or.inr (g h))⟩
theorem runs_l0 (s : ByteArray) (hs : s.size ≤ 2147483647) : ∀ (d i : Nat), i + d = s.size →
    ∃ b, Ev (fun k => laws_twRuns.l0 k s (i : Int)) b ∧ (b = true → ∀ c ∈ s.data.toList.drop i, cls c ≠ 4) := by
  intro d
  induction d with
  | zero =>
    intro i h
    refine ⟨decide ((s.size : Int) ≤ 200), Ev.step (f := fun _ => some (decide ((s.size : Int) ≤ 200))) (fun k => ?_) (Ev.now _), fun _ c hc => ?_⟩
    · simp only [laws_twRuns.l0]
      rw [if_neg (by omega)]
    · rw [List.drop_eq_nil_of_le (by rw [← size_list]; omega)] at hc
      cases hc
  | succ d ih =>
    intro i h
    have hi : i < s.data.toList.length := by rw [← size_list]; omega
    have hb := bt_at s i hi
    obtain ⟨r, e, g⟩ := kind_ev (s.data.toList[i])
    obtain ⟨b, e2, g2⟩ := ih (i + 1) (by omega)
    have step : ∀ {x}, Ev (fun k => if r > 2 then some false else laws_twRuns.l0 k s ((i + 1 : Nat) : Int)) x → Ev (fun k => laws_twRuns.l0 k s (i : Int)) x := by
      intro x hx
      refine Ev.step (f := fun k => (spec_TwKind.f k (bt s (i : Int))).bind fun t102 => (if t102 > 2 then (some false) else (laws_twRuns.l0 k s ((i + 1 : Nat) : Int)))) (fun k => ?_) (by rw [hb]; exact Ev.bind e hx)
      simp only [laws_twRuns.l0]
      rw [if_pos (by omega), if_pos (by omega), wrap64_id (by omega) (by omega)]
      rfl
    by_cases h2 : r > 2
    · exact ⟨false, step (Ev.congr (f := fun _ => some false) (fun k => by rw [if_pos h2]) (Ev.now _)), fun h => by cases h⟩
    · refine ⟨b, step (Ev.congr (fun k => by rw [if_neg h2]) e2), fun hb2 c hc => ?_⟩
      rw [List.drop_eq_getElem_cons hi] at hc
      rcases List.mem_cons.1 hc with e3 | e3
      · rw [e3]; exact g h2
      · exact g2 hb2 c e3
theorem runs_ev (s : ByteArray) (hs : s.size ≤ 2147483647) : ∃ b, Ev (fun k => laws_twRuns.f k s) b ∧ (b = true → ∀ c ∈ s.data.toList, cls c ≠ 4) := by
  obtain ⟨b, e, g⟩ := runs_l0 s hs s.size 0 (by omega)
  exact ⟨b, e, fun h c hc => g h c (by simpa using hc)⟩
theorem texts_l0 (a : List ByteArray) (ha : a.length ≤ 4611686018427387904) : ∀ (r p : List ByteArray), a = p ++ r → Ev (fun k => spec_TwTexts.l0 k a a (p.length : Int)) true := by
  intro r
  induction r with
  | nil =>
    intro p hp
    refine Ev.step (f := fun _ => some true) (fun k => ?_) (Ev.now _)
    simp only [spec_TwTexts.l0]
    rw [if_neg (by rw [hp]; simp)]
  | cons q r ih =>
    intro p hp
    have hlen : a.length = p.length + r.length + 1 := by rw [hp]; simp; omega
    refine Ev.step (f := fun k => spec_TwTexts.l0 k a a ((p ++ [q]).length : Int)) (fun k => ?_) (ih (p ++ [q]) (by rw [hp]; simp))
    simp only [spec_TwTexts.l0]
    rw [if_pos (by omega), if_pos (by omega), if_pos (by omega), if_pos trivial, succ_len (q := q) (by omega)]
theorem texts_ev (a : List ByteArray) (ha : a.length ≤ 4611686018427387904) : Ev (fun k => spec_TwTexts.f k a a) true :=
  Ev.congr (fun k => by unfold spec_TwTexts.f; rw [if_pos rfl]; rfl) (texts_l0 a ha a [] rfl)

/-- The parts as texts. -/
def parts (l : List UInt8) : List ByteArray := (camel l).map fun s => ⟨s.toArray⟩
theorem cls_ascii {b : UInt8} (h : cls b ≠ 4) : b.toNat < 128 := by
  unfold cls at h
  split at h
  · omega
  · split at h
    · omega
    · split at h
      · omega
      · exact absurd rfl h
theorem camel_f (s : ByteArray) (h : ∀ b ∈ s.data.toList, b.toNat < 128) (hs : s.size ≤ 1000000) : impl_TwSplitCamelCase.f s = some (parts s.data.toList) := by
  unfold impl_TwSplitCamelCase.f
  rw [if_pos ⟨hs, List.all_eq_true.2 fun b hb => decide_eq_true (h b hb)⟩]
  rfl
/-- Behind i words. -/
structure Good (i : Nat) (all : ByteArray) (want : List ByteArray) : Prop where
  size : all.size ≤ 21 * i
  ascii : ∀ b ∈ all.data.toList, b.toNat < 128
  eq : want = parts all.data.toList
  zero : i = 0 → all.data.toList = []
  last : i ≠ 0 → lastC all.data.toList ≠ 4
  many : i ≤ want.length ∧ want.length ≤ 21 * i
theorem last_app (a w : List UInt8) (hw : w ≠ []) : lastC (a ++ w) = lastC w := by
  unfold lastC
  rw [List.getLast?_append, List.getLast?_eq_some_getLast hw]
  rfl
theorem last_ne (w : List UInt8) (hw : w ≠ []) (h : ∀ b ∈ w, cls b ≠ 4) : lastC w ≠ 4 := by
  unfold lastC
  rw [List.getLast?_eq_some_getLast hw]
  exact h _ (List.getLast_mem hw)
theorem Good.step0 {i : Nat} {all : ByteArray} {want : List ByteArray} (g : Good i all want) (hi : i = 0) (w : ByteArray) (hw : ∀ b ∈ w.data.toList, cls b ≠ 4) (h0 : w.data.toList ≠ []) (hs : w.size ≤ 20) : Good (i + 1) (all ++ w) (want ++ parts w.data.toList) := by
  subst hi
  have ha := g.zero rfl
  have e : (all ++ w).data.toList = w.data.toList := by rw [data_append, ha]; rfl
  have hz : all.size = 0 := by rw [size_list, ha]; rfl
  have hwant : want = [] := by rw [g.eq, ha]; simp [parts, camel, groups, adj]
  have hl := camel_len w.data.toList hw
  have hn := camel_ne w.data.toList hw h0
  rw [← size_list] at hl
  refine ⟨by rw [ByteArray.size_append]; omega, ?_, ?_, fun h => by omega, fun _ => ?_, ?_⟩
  · rw [e]; exact fun b hb => cls_ascii (hw b hb)
  · rw [e, hwant]; rfl
  · rw [e]; exact last_ne _ h0 hw
  · rw [hwant]
    simp only [List.nil_append, parts, List.length_map]
    omega
theorem Good.step {i : Nat} {all : ByteArray} {want : List ByteArray} (g : Good i all want) (hi : i ≠ 0) (x : UInt8) (hx : x = 32 ∨ x = 95) (w : ByteArray) (hw : ∀ b ∈ w.data.toList, cls b ≠ 4) (h0 : w.data.toList ≠ []) (hs : w.size ≤ 20) : Good (i + 1) ((all ++ ⟨#[x]⟩) ++ w) (want ++ parts w.data.toList) := by
  have e : ((all ++ ⟨#[x]⟩) ++ w).data.toList = all.data.toList ++ [x] ++ w.data.toList := by rw [data_append, data_append]
  have hl := camel_len w.data.toList hw
  have hn := camel_ne w.data.toList hw h0
  rw [← size_list] at hl
  have hz := g.size
  have hm := g.many
  have hx1 : (⟨#[x]⟩ : ByteArray).size = 1 := rfl
  refine ⟨by rw [ByteArray.size_append, ByteArray.size_append, hx1]; omega, ?_, ?_, fun h => by omega, fun _ => ?_, ?_⟩
  · rw [e]
    intro b hb
    rcases List.mem_append.1 hb with hb | hb
    · rcases List.mem_append.1 hb with hb | hb
      · exact g.ascii b hb
      · have : b = x := by simpa using hb
        rw [this]
        rcases hx with rfl | rfl <;> decide
    · exact cls_ascii (hw b hb)
  · rw [e, g.eq]
    unfold parts
    rw [camel_words _ _ x hx (g.last hi) hw, List.map_append]
  · rw [e, last_app _ _ h0]; exact last_ne _ h0 hw
  · rw [List.length_append]
    have : (parts w.data.toList).length = (camel w.data.toList).length := by simp [parts]
    rw [this]
    omega
theorem j2_yes (ws : List ByteArray) (bs : List Bool) (a : ByteArray) (wt : List ByteArray) (x y z : Int) : Ev (fun k => laws_FnCamelWords.j2 k ws bs a wt x y z true) true := by
  refine Ev.step (f := fun _ => some true) (fun k => ?_) (Ev.now _)
  simp only [laws_FnCamelWords.j2]
  rw [if_pos True.intro]
theorem words_l0 (ws : List ByteArray) (bs : List Bool) (hn : ws.length ≤ 20) (hz : ∀ x ∈ ws, x.size ≤ 2147483647) : ∀ (d i : Nat) (all : ByteArray) (want : List ByteArray), i + d = ws.length → Good i all want →
    Ev (fun k => laws_FnCamelWords.l0 k ws bs all want (ws.length : Int) (i : Int)) true := by
  intro d
  induction d with
  | zero =>
    intro i all want h g
    have hz1 := g.size
    have hm := g.many
    refine Ev.step (f := fun k => (spec_TwTexts.f k want want).bind fun t109 => (some t109)) (fun k => ?_) (Ev.bind (texts_ev want (by omega)) (Ev.now _))
    simp only [laws_FnCamelWords.l0]
    rw [if_neg (by omega), if_pos (by omega), camel_f all g.ascii (by omega), ← g.eq]
    rfl
  | succ d ih =>
    intro i all want h g
    have hi : i < ws.length := by omega
    obtain ⟨w, hw⟩ : ∃ w, ws[i] = w := ⟨_, rfl⟩
    have hrd : rdOf ByteArray.empty ws (i : Int) = w := by rw [← hw]; simp [rdOf, List.getD, hi]
    have hwm : w ∈ ws := by rw [← hw]; exact List.getElem_mem hi
    obtain ⟨b, e, gr⟩ := runs_ev w (hz w hwm)
    have hz1 := g.size
    have hm := g.many
    have w1 : wrap64 ((i : Int) + 1) = ((i + 1 : Nat) : Int) := by rw [wrap64_id (by omega) (by omega)]; rfl
    have step : ∀ {x}, Ev (fun k => if b = true then (if w.toList = ([] : List UInt8) then laws_FnCamelWords.j2 k ws bs all want (i : Int) (ws.length : Int) (i : Int) true else laws_FnCamelWords.j2 k ws bs all want (i : Int) (ws.length : Int) (i : Int) (decide ((w.size : Int) > 20))) else laws_FnCamelWords.j2 k ws bs all want (i : Int) (ws.length : Int) (i : Int) true) x → Ev (fun k => laws_FnCamelWords.l0 k ws bs all want (ws.length : Int) (i : Int)) x := by
      intro x hx
      refine Ev.step (f := fun k => (laws_twRuns.f k w).bind fun t111 => (if t111 = true then (if w.toList = ([] : List UInt8) then laws_FnCamelWords.j2 k ws bs all want (i : Int) (ws.length : Int) (i : Int) true else laws_FnCamelWords.j2 k ws bs all want (i : Int) (ws.length : Int) (i : Int) (decide ((w.size : Int) > 20))) else laws_FnCamelWords.j2 k ws bs all want (i : Int) (ws.length : Int) (i : Int) true)) (fun k => ?_) (Ev.bind e hx)
      simp only [laws_FnCamelWords.l0]
      rw [if_pos (by omega), if_pos (by omega), if_pos (by omega), hrd]
    refine step ?_
    cases b with
    | false => exact Ev.congr (fun k => by rw [if_neg (by decide)]) (j2_yes _ _ _ _ _ _ _)
    | true =>
      refine Ev.congr (fun k => by rw [if_pos rfl]) ?_
      by_cases h0 : w.toList = []
      · exact Ev.congr (fun k => by rw [if_pos h0]) (j2_yes _ _ _ _ _ _ _)
      refine Ev.congr (fun k => by rw [if_neg h0]) ?_
      by_cases h20 : (w.size : Int) > 20
      · rw [decide_eq_true h20]; exact j2_yes _ _ _ _ _ _ _
      rw [decide_eq_false h20]
      have hwc := gr rfl
      have hw0 : w.data.toList ≠ [] := by rw [← toList_data]; exact h0
      have hws : w.size ≤ 20 := by omega
      have hf := camel_f w (fun b hb => cls_ascii (hwc b hb)) (by omega)
      have hpl : (parts w.data.toList).length ≤ 20 := by
        have := camel_len w.data.toList hwc
        rw [← size_list] at this
        simp only [parts, List.length_map]
        omega
      by_cases hi0 : i = 0
      · refine Ev.step (f := fun k => laws_FnCamelWords.l0 k ws bs (all ++ w) (want ++ parts w.data.toList) (ws.length : Int) ((i + 1 : Nat) : Int)) (fun k => ?_) (ih (i + 1) _ _ (by omega) (g.step0 hi0 w hwc hw0 hws))
        simp only [laws_FnCamelWords.j2]
        rw [if_neg (by decide), if_neg (by omega), if_pos (by omega), if_pos (by omega), hrd, if_pos (by omega), hf]
        simp only [Option.bind_some]
        rw [if_pos (by omega), w1]
      · have sz : ∀ x : UInt8, (all ++ (⟨#[x]⟩ : ByteArray)).size = all.size + 1 := fun x => by rw [ByteArray.size_append]; rfl
        by_cases hb : (i : Int) < (bs.length : Int)
        · by_cases hc : rdOf false bs (i : Int) = true
          · refine Ev.step (f := fun k => laws_FnCamelWords.l0 k ws bs ((all ++ ⟨#[32]⟩) ++ w) (want ++ parts w.data.toList) (ws.length : Int) ((i + 1 : Nat) : Int)) (fun k => ?_) (ih (i + 1) _ _ (by omega) (g.step hi0 32 (Or.inl rfl) w hwc hw0 hws))
            simp only [laws_FnCamelWords.j2]
            rw [if_neg (by decide), if_pos (by omega), if_pos hb, if_pos (by omega), if_pos hc, if_pos (by omega), if_pos (by omega), hrd, sz 32, if_pos (by omega), hf]
            simp only [Option.bind_some]
            rw [if_pos (by omega), w1]
          · refine Ev.step (f := fun k => laws_FnCamelWords.l0 k ws bs ((all ++ ⟨#[95]⟩) ++ w) (want ++ parts w.data.toList) (ws.length : Int) ((i + 1 : Nat) : Int)) (fun k => ?_) (ih (i + 1) _ _ (by omega) (g.step hi0 95 (Or.inr rfl) w hwc hw0 hws))
            simp only [laws_FnCamelWords.j2]
            rw [if_neg (by decide), if_pos (by omega), if_pos hb, if_pos (by omega), if_neg hc, if_pos (by omega), if_pos (by omega), hrd, sz 95, if_pos (by omega), hf]
            simp only [Option.bind_some]
            rw [if_pos (by omega), w1]
        · refine Ev.step (f := fun k => laws_FnCamelWords.l0 k ws bs ((all ++ ⟨#[95]⟩) ++ w) (want ++ parts w.data.toList) (ws.length : Int) ((i + 1 : Nat) : Int)) (fun k => ?_) (ih (i + 1) _ _ (by omega) (g.step hi0 95 (Or.inr rfl) w hwc hw0 hws))
          simp only [laws_FnCamelWords.j2]
          rw [if_neg (by decide), if_pos (by omega), if_neg hb, if_pos (by omega), if_pos (by omega), if_pos (by omega), hrd, sz 95, if_pos (by omega), hf]
          simp only [Option.bind_some]
          rw [if_pos (by omega), w1]
theorem j0_yes (ws : List ByteArray) (bs : List Bool) : Ev (fun k => laws_FnCamelWords.j0 k ws bs true) true := by
  refine Ev.step (f := fun _ => some true) (fun k => ?_) (Ev.now _)
  simp only [laws_FnCamelWords.j0]
  rw [if_pos True.intro]
theorem j0_no (ws : List ByteArray) (bs : List Bool) (hz : ∀ x ∈ ws, x.size ≤ 2147483647) : Ev (fun k => laws_FnCamelWords.j0 k ws bs false) true := by
  by_cases h : (ws.length : Int) > 20
  · refine Ev.step (f := fun _ => some true) (fun k => ?_) (Ev.now _)
    simp only [laws_FnCamelWords.j0]
    rw [if_neg (by decide), if_pos h]
  · refine Ev.step (f := fun k => laws_FnCamelWords.l0 k ws bs (⟨#[]⟩ : ByteArray) [] (ws.length : Int) ((0 : Nat) : Int)) (fun k => ?_) (words_l0 ws bs (by omega) hz ws.length 0 _ _ (by omega) ⟨Nat.le_refl 0, fun b hb => (by cases hb), by simp [parts, camel, groups, adj], fun _ => rfl, fun h => absurd rfl h, by simp⟩)
    simp only [laws_FnCamelWords.j0]
    rw [if_neg (by decide), if_neg h]
    rfl

theorem FnCamelWords : laws_FnCamelWords.Pure := by
  intro ws bs _ _
  obtain ⟨b, hb, e⟩ := fits4_ev ws
  have go : Ev (fun k => laws_FnCamelWords.f k ws bs) true := by
    refine Ev.congr (fun k => by unfold laws_FnCamelWords.f; rfl) (Ev.bind e ?_)
    cases b with
    | false => exact Ev.congr (fun k => by rw [if_neg (by decide)]) (j0_yes ws bs)
    | true =>
      refine Ev.congr (fun k => by rw [if_pos rfl]) ?_
      by_cases h : (bs.length : Int) > 2147483647
      · rw [decide_eq_true h]; exact j0_yes ws bs
      · rw [decide_eq_false h]; exact j0_no ws bs (hb rfl).2
  exact go.rounds

end Go.Proofs.YtienokiifhcelaaDoor.Pure
