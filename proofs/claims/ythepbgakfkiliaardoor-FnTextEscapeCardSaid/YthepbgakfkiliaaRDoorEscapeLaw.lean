/- What text.Escape answers on a text without the byte 27, with a sequence of 27, 91, other bytes: the sequence, the text, all off. -/
import Derived.Test.YthepbgakfkiliaaRDoorHandEscape
import Derived.Test.YthepbgakfkiliaaRDoorBase
import Derived.Test.YthepbgakfkiliaaRDoorText
namespace Go.Proofs.YthepbgakfkiliaaRDoor.Hand
open Go.RowKit Go.Proofs.YthepbgakfkiliaaRDoor.PEscape Go.Proofs.YthepbgakfkiliaaRDoorW.PrintWords
open Go.Proofs.YthepbgakfkiliaaRDoor.Base
set_option linter.unusedSimpArgs false

/-- What stands at a place of a text that is looked for stands at that place of the part. -/
theorem part_at {s : ByteArray} {a b : Nat} {m : List UInt8} (h : (s.extract a b).data.toList = m) (_ : b ≤ s.size) (j : Nat) (hj : a + j < b) : m[j]? = s.data.toList[a + j]? := by
  rw [← h, Text.data_extract, List.getElem?_take, if_pos (by omega), List.getElem?_drop]

/-- No place fits: not found. -/
theorem idx_none (s sub : ByteArray) (hs : s.size ≤ 4000000000000000000) (hsub : sub.size ≤ 4000000000000000000) (H : ∀ i, i + sub.size ≤ s.size → (s.extract i (i + sub.size)).data.toList ≠ sub.data.toList) :
    ∀ (d i : Nat), s.size + 1 - i ≤ d → i ≤ s.size + 1 → Ev (fun k => text_zzIndex.l0 k s sub (i : Int)) (-1) := by
  intro d
  induction d with
  | zero =>
    intro i h1 h2
    refine Ev.step (f := fun _ => some (-1)) (fun k => ?_) (Ev.now _)
    simp only [text_zzIndex.l0]
    rw [wrap64_id (by omega) (by omega), if_neg (by omega)]
  | succ d ih =>
    intro i h1 h2
    by_cases hi : i + sub.size ≤ s.size
    · refine Ev.step (f := fun k => text_zzIndex.l0 k s sub ((i + 1 : Nat) : Int)) (fun k => ?_) (ih (i + 1) (by omega) (by omega))
      simp only [text_zzIndex.l0]
      have e1 : wrap64 ((i : Int) + (sub.size : Int)) = ((i + sub.size : Nat) : Int) := by rw [wrap64_id (by omega) (by omega)]; omega
      have e2 : wrap64 ((i : Int) + 1) = ((i + 1 : Nat) : Int) := by rw [wrap64_id (by omega) (by omega)]; omega
      rw [e1, e2, if_pos (by omega), if_pos (by omega), if_pos (by omega), if_neg]
      rw [toList_data, toList_data]
      exact H i hi
    · refine Ev.step (f := fun _ => some (-1)) (fun k => ?_) (Ev.now _)
      simp only [text_zzIndex.l0]
      rw [wrap64_id (by omega) (by omega), if_neg (by omega)]

theorem index_none (s sub : ByteArray) (hs : s.size ≤ 4000000000000000000) (hsub : sub.size ≤ 4000000000000000000) (H : ∀ i, i + sub.size ≤ s.size → (s.extract i (i + sub.size)).data.toList ≠ sub.data.toList) :
    Ev (fun k => text_zzIndex.f k s sub) (-1) := idx_none s sub hs hsub H (s.size + 1) 0 (by omega) (by omega)

theorem strOf_bytesOf (s : ByteArray) : strOfNums (([] : List Int) ++ bytesOf s) = s := by
  apply bytes_ext
  simp [strOfNums, bytesOf]
  exact List.map_id'' (fun x => by simp) _

/-- A text in which nothing is found stays. -/
theorem replace_none (s old new : ByteArray) (hs : s.size < 140737488355328) (ho : old.size ≤ 4000000000000000000) (h0 : old.size ≠ 0) (H : ∀ i, i + old.size ≤ s.size → (s.extract i (i + old.size)).data.toList ≠ old.data.toList) :
    Ev (fun k => text_zzReplaceAll.f k s old new) s := by
  unfold text_zzReplaceAll.f
  refine Ev.congr (f := fun k => text_zzReplaceAll.l1 k s old new []) (fun k => by rw [if_neg (by omega)]) ?_
  refine Ev.step (f := fun k => (text_zzIndex.f k s old).bind fun t118 => (if t118 < 0 then (if ([] : List Int).length + s.size < 140737488355328 then (some (strOfNums (([] : List Int) ++ bytesOf s))) else (none)) else (if 0 ≤ t118 then (if t118 ≤ (s.size : Int) then (if ([] : List Int).length + (s.extract 0 (t118 : Int).toNat).size < 140737488355328 then ((some (([] : List Int) ++ bytesOf (s.extract 0 (t118 : Int).toNat) : List Int)).bind fun y122 => (if y122.length + new.size < 140737488355328 then (if 0 ≤ (wrap64 (t118 + (old.size : Int))) then (if (wrap64 (t118 + (old.size : Int))) ≤ (s.size : Int) then (text_zzReplaceAll.l1 k (s.extract ((wrap64 (t118 + (old.size : Int))) : Int).toNat s.size) old new (y122 ++ bytesOf new)) else (none)) else (none)) else (none))) else (none)) else (none)) else (none)))) (fun k => rfl) ?_
  refine Ev.bind (a := -1) (index_none s old (by omega) ho H) (Ev.congr (f := fun _ => some s) (fun k => ?_) (Ev.now _))
  rw [if_pos (by decide), if_pos (by simp; omega), strOf_bytesOf]

theorem contains_none (s sub : ByteArray) (hs : s.size ≤ 4000000000000000000) (hsub : sub.size ≤ 4000000000000000000) (H : ∀ i, i + sub.size ≤ s.size → (s.extract i (i + sub.size)).data.toList ≠ sub.data.toList) :
    Ev (fun k => text_zzContains.f k s sub) false := by
  unfold text_zzContains.f
  exact Ev.bind (a := -1) (index_none s sub hs hsub H) (Ev.congr (f := fun _ => some false) (fun k => by simp) (Ev.now _))

theorem rst_size : RST.size = 4 := rfl

/-- The escape of a text without the byte 27. -/
theorem escape_plain (s q : ByteArray) (hq : ∀ j : Nat, q.data.toList[j]? = some 27 → j = 0) (hq0 : q.data.toList[0]? = some 27) (hq4 : 4 ≤ q.size) (hqs : q.size ≤ 1000) (hs0 : 0 < s.size) (hs : s.size ≤ 1000000) (hn : ∀ x ∈ s.data.toList, x ≠ 27) :
    Ev (fun k => text_Escape.f k s q) ((q ++ s) ++ RST) := by
  have hls := size_list s
  have hlq := size_list q
  have hsn : ∀ j : Nat, s.data.toList[j]? ≠ some 27 := fun j e => hn 27 (List.mem_of_getElem? e) rfl
  have hp : strings_HasPrefix.f s ESB = some false := by
    unfold strings_HasPrefix.f stringslite_HasPrefix.f
    have e2 : (ESB.size : Int) = 2 := rfl
    rw [e2]
    by_cases h2 : (s.size : Int) ≥ 2
    · rw [if_pos h2, if_pos (by omega), if_pos (by omega)]
      simp only [Option.bind_some, Option.some.injEq]
      rw [toList_data, toList_data]
      rw [beq_eq_false_iff_ne]
      intro e
      have := part_at e (by omega) 0 (by omega)
      exact hsn 0 (by simpa using this.symm)
    · rw [if_neg h2]; rfl
  have hr : Ev (fun k => text_zzReplaceAll.f k s RST (RST ++ q)) s := by
    refine replace_none s RST (RST ++ q) (by omega) (by rw [rst_size]; omega) (by decide) ?_
    intro i hi e
    have := part_at e (by omega) 0 (by rw [rst_size]; omega)
    exact hsn i (by simpa using this.symm)
  have eb : escBody false q s = q ++ s := by apply bytes_ext; rw [data_append]; simp [escBody, escHead]
  have hqs' : (q ++ s).size = q.size + s.size := ByteArray.size_append
  have hx : strings_HasSuffix.f (escBody false q s) RST = some false := by
    rw [eb]
    unfold strings_HasSuffix.f stringslite_HasSuffix.f
    rw [hqs', show (RST.size : Int) = 4 from rfl, wrap64_id (by omega) (by omega), if_pos (by omega), if_pos (by omega), if_pos (by omega)]
    simp only [Option.bind_some, Option.some.injEq]
    rw [toList_data, toList_data, beq_eq_false_iff_ne]
    intro e
    have := part_at e (by omega) 0 (by omega)
    rw [data_append, List.getElem?_append] at this
    split at this
    · have := hq _ this.symm
      omega
    · exact hsn _ this.symm
  have et : escTail false false q s = (q ++ s) ++ RST := by apply bytes_ext; rw [data_append, data_append]; simp [escTail, escHead]
  have hts : ((q ++ s) ++ RST).size = q.size + s.size + 4 := by rw [ByteArray.size_append, hqs']; rfl
  have hqr : (q ++ RST).size = q.size + 4 := by rw [ByteArray.size_append]; rfl
  have hc : Ev (fun k => text_zzContains.f k (escTail false false q s) (q ++ RST)) false := by
    rw [et]
    refine contains_none _ _ (by rw [hts]; omega) (by rw [hqr]; omega) ?_
    intro i hi e
    rw [hqr] at e
    rw [hts, hqr] at hi
    have h0 := part_at e (by rw [hts]; omega) 0 (by omega)
    have hi0 : i = 0 := by
      have h0' : (some 27 : Option UInt8) = (q.data.toList ++ (s.data.toList ++ RST.data.toList))[i]? := by
        rw [← hq0]
        rw [data_append, List.getElem?_append, if_pos (by omega), data_append, data_append] at h0
        simpa using h0
      rw [List.getElem?_append] at h0'
      split at h0'
      · exact hq _ h0'.symm
      · rw [List.getElem?_append, if_pos (by omega)] at h0'
        exact absurd h0'.symm (hsn _)
    subst hi0
    have h1 := part_at e (by rw [hts]; omega) q.size (by omega)
    rw [data_append, data_append, data_append, List.getElem?_append, if_neg (by omega), hlq, Nat.sub_self] at h1
    have h1' : (some 27 : Option UInt8) = (q.data.toList ++ s.data.toList ++ RST.data.toList)[0 + q.data.toList.length]? := h1
    rw [List.append_assoc, List.getElem?_append, if_neg (by omega), show 0 + q.data.toList.length - q.data.toList.length = 0 by omega, List.getElem?_append, if_pos (by omega)] at h1'
    exact hsn 0 h1'.symm
  obtain ⟨K1, h1⟩ := hr
  obtain ⟨K2, h2⟩ := hc
  refine ⟨K1 + K2, fun k hk => ?_⟩
  show text_Escape.f k s q = _
  unfold text_Escape.f
  rw [if_pos ⟨by omega, by omega⟩, hp, Option.bind_some, show text_zzReplaceAll.f k s RST (RST ++ q) = some s from h1 k (by omega), Option.bind_some, if_pos (by omega), hx, Option.bind_some, show text_zzContains.f k (escTail false false q s) (q ++ RST) = some false from h2 k (by omega), Option.bind_some, if_neg (by decide), et]
end Go.Proofs.YthepbgakfkiliaaRDoor.Hand
