/- What zzReplaceAll answers on texts made of sequences and other characters. -/
import Derived.Test.YthepbgakfkiliaaRDoorEscapeLaw
import Derived.Test.YthepbgakfkiliaaRDoorTok
namespace Go.Proofs.YthepbgakfkiliaaRDoor.Hand
open Go.RowKit Go.Proofs.YthepbgakfkiliaaRDoor.PEscape Go.Proofs.YthepbgakfkiliaaRDoorW.PrintWords
open Go.Proofs.YthepbgakfkiliaaRDoor.Base Go.Proofs.YthepbgakfkiliaaRDoor.Tok
set_option linter.unusedSimpArgs false

theorem hit_prefix {s sub : ByteArray} {i : Nat} (h : (s.extract i (i + sub.size)).data.toList = sub.data.toList) : sub.data.toList <+: s.data.toList.drop i := by
  rw [Text.data_extract] at h
  rw [← h]
  exact List.take_prefix _ _
theorem prefix_hit {s sub : ByteArray} {i : Nat} (h : sub.data.toList <+: s.data.toList.drop i) : (s.extract i (i + sub.size)).data.toList = sub.data.toList := by
  rw [Text.data_extract, show i + sub.size - i = sub.size by omega, size_list]
  exact (List.prefix_iff_eq_take.1 h).symm

/-- Found: the first place. -/
theorem idx_at (s sub : ByteArray) (hs : s.size ≤ 4000000000000000000) (hsub : sub.size ≤ 4000000000000000000) (i0 : Nat) (hf : i0 + sub.size ≤ s.size) (hit : sub.data.toList <+: s.data.toList.drop i0) (first : ∀ i, i < i0 → ¬ sub.data.toList <+: s.data.toList.drop i) :
    ∀ (d i : Nat), i0 - i ≤ d → i ≤ i0 → Ev (fun k => text_zzIndex.l0 k s sub (i : Int)) (i0 : Int) := by
  intro d
  induction d with
  | zero =>
    intro i h1 h2
    obtain rfl : i = i0 := by omega
    refine Ev.step (f := fun _ => some (i : Int)) (fun k => ?_) (Ev.now _)
    have e1 : wrap64 ((i : Int) + (sub.size : Int)) = ((i + sub.size : Nat) : Int) := by rw [wrap64_id (by omega) (by omega)]; omega
    simp only [text_zzIndex.l0]
    rw [e1, if_pos (by omega), if_pos (by omega), if_pos (by omega), if_pos]
    rw [toList_data, toList_data]
    exact prefix_hit hit
  | succ d ih =>
    intro i h1 h2
    by_cases hi : i = i0
    · subst hi
      refine Ev.step (f := fun _ => some (i : Int)) (fun k => ?_) (Ev.now _)
      have e1 : wrap64 ((i : Int) + (sub.size : Int)) = ((i + sub.size : Nat) : Int) := by rw [wrap64_id (by omega) (by omega)]; omega
      simp only [text_zzIndex.l0]
      rw [e1, if_pos (by omega), if_pos (by omega), if_pos (by omega), if_pos]
      rw [toList_data, toList_data]
      exact prefix_hit hit
    · refine Ev.step (f := fun k => text_zzIndex.l0 k s sub ((i + 1 : Nat) : Int)) (fun k => ?_) (ih (i + 1) (by omega) (by omega))
      simp only [text_zzIndex.l0]
      have e1 : wrap64 ((i : Int) + (sub.size : Int)) = ((i + sub.size : Nat) : Int) := by rw [wrap64_id (by omega) (by omega)]; omega
      have e2 : wrap64 ((i : Int) + 1) = ((i + 1 : Nat) : Int) := by rw [wrap64_id (by omega) (by omega)]; omega
      rw [e1, e2, if_pos (by omega), if_pos (by omega), if_pos (by omega), if_neg]
      rw [toList_data, toList_data]
      exact fun e => first i (by omega) (hit_prefix e)
theorem index_at (s sub : ByteArray) (hs : s.size ≤ 4000000000000000000) (hsub : sub.size ≤ 4000000000000000000) (i0 : Nat) (hf : i0 + sub.size ≤ s.size) (hit : sub.data.toList <+: s.data.toList.drop i0) (first : ∀ i, i < i0 → ¬ sub.data.toList <+: s.data.toList.drop i) :
    Ev (fun k => text_zzIndex.f k s sub) (i0 : Int) := idx_at s sub hs hsub i0 hf hit first i0 0 (by omega) (by omega)

theorem bytesOf_append (a b : ByteArray) : bytesOf (a ++ b) = bytesOf a ++ bytesOf b := by
  simp [bytesOf, data_append]
/-- The tokens with each run that is looked for put anew, from the first one on. -/
inductive Rep (P : List Tok) (new : List UInt8) : List Tok → List UInt8 → Prop where
  | none {ts : List Tok} (h : ∀ A B, ts ≠ A ++ P ++ B) : Rep P new ts (ren ts)
  | hit {A B : List Tok} {out : List UInt8} (h : ∀ A' B', A ++ P ++ B = A' ++ P ++ B' → (ren A).length ≤ (ren A').length) (r : Rep P new B out) : Rep P new (A ++ P ++ B) (ren A ++ new ++ out)

theorem num_append (a : List Int) (l : List UInt8) (m : List UInt8) : a ++ bytesOf ⟨(l ++ m).toArray⟩ = (a ++ bytesOf ⟨l.toArray⟩) ++ bytesOf ⟨m.toArray⟩ := by
  simp [bytesOf]

theorem rep_ev (q : List UInt8) (P : List Tok) (hp : ∀ t ∈ Tok.E q :: P, OkE t) (old new : ByteArray) (hold : old.data.toList = ren (.E q :: P)) (ho : old.size ≤ 1000000) {ts : List Tok} {out : List UInt8} (h : Rep (.E q :: P) new.data.toList ts out) :
    (∀ t ∈ ts, Ok t) → ∀ (s : ByteArray) (acc : List Int), s.data.toList = ren ts → acc.length + s.size + ts.length * new.size ≤ 1000000000000 → Ev (fun k => text_zzReplaceAll.l1 k s old new acc) (strOfNums (acc ++ bytesOf ⟨out.toArray⟩)) := by
  have hosz : old.size = (ren (.E q :: P)).length := by rw [size_list, hold]
  have hopos : 0 < old.size := by
    rw [hosz, ren_cons, List.length_append]
    have : (Tok.bytes (.E q)).length = q.length + 3 := by simp [Tok.bytes]
    omega
  induction h with
  | none hn =>
    rename_i ts
    intro hok s acc hs hb
    refine Ev.step (f := fun k => (text_zzIndex.f k s old).bind fun t118 => (if t118 < 0 then (if acc.length + s.size < 140737488355328 then (some (strOfNums (acc ++ bytesOf s))) else (none)) else (if 0 ≤ t118 then (if t118 ≤ (s.size : Int) then (if acc.length + (s.extract 0 (t118 : Int).toNat).size < 140737488355328 then ((some (acc ++ bytesOf (s.extract 0 (t118 : Int).toNat) : List Int)).bind fun y122 => (if y122.length + new.size < 140737488355328 then (if 0 ≤ (wrap64 (t118 + (old.size : Int))) then (if (wrap64 (t118 + (old.size : Int))) ≤ (s.size : Int) then (text_zzReplaceAll.l1 k (s.extract ((wrap64 (t118 + (old.size : Int))) : Int).toNat s.size) old new (y122 ++ bytesOf new)) else (none)) else (none)) else (none))) else (none)) else (none)) else (none)))) (fun k => rfl) ?_
    refine Ev.bind (a := -1) (index_none s old (by omega) (by omega) ?_) (Ev.congr (f := fun _ => some _) (fun k => ?_) (Ev.now _))
    · intro i hi e
      have h1 := hit_prefix e
      rw [hold, hs] at h1
      obtain ⟨A, B, e2, _⟩ := found q P hp ts hok i (by rw [← hs, ← size_list]; omega) h1
      exact hn A B e2
    · rw [if_pos (by decide), if_pos (by omega)]
      have : s = ⟨(ren ts).toArray⟩ := bytes_ext (by rw [hs])
      rw [← this]
  | hit hf r ih =>
    rename_i A B out
    intro hok s acc hs hb
    have hs' : s.data.toList = ren A ++ ren (.E q :: P) ++ ren B := by rw [hs, ren_append, ren_append]
    have hsz : s.size = (ren A).length + old.size + (ren B).length := by rw [size_list, hs', hosz]; simp; omega
    have hi := index_at s old (by omega) (by omega) (ren A).length (by omega) (by rw [hold, hs', List.append_assoc, List.drop_left]; exact List.prefix_append _ _) (by
      intro i hi e
      rw [hold, hs] at e
      obtain ⟨A', B', e2, e3⟩ := found q P hp _ hok i (by rw [← hs, ← size_list]; omega) e
      have := hf A' B' e2
      omega)
    have hBl : B.length + 1 ≤ (A ++ (.E q :: P) ++ B).length := by simp; omega
    have hmul : (B.length + 1) * new.size ≤ (A ++ (.E q :: P) ++ B).length * new.size := Nat.mul_le_mul_right _ hBl
    have hmul2 : (B.length + 1) * new.size = B.length * new.size + new.size := by rw [Nat.add_mul, Nat.one_mul]
    have e1 : s.extract 0 (ren A).length = ⟨(ren A).toArray⟩ := bytes_ext (Text.extract_mid s [] (ren A) (ren (.E q :: P) ++ ren B) (by rw [hs']; simp) 0 _ rfl (by simp))
    have e2 : (s.extract ((ren A).length + old.size) s.size).data.toList = ren B := Text.extract_mid s (ren A ++ ren (.E q :: P)) (ren B) [] (by rw [hs']; simp) _ _ (by rw [hosz]; simp) (by rw [hsz, hosz]; simp)
    have e3 : (s.extract ((ren A).length + old.size) s.size).size = (ren B).length := by rw [size_list, e2]
    have e4 : (bytesOf (⟨(ren A).toArray⟩ : ByteArray)).length = (ren A).length := by simp [bytesOf]
    have e5 : (bytesOf new).length = new.size := by rw [size_list]; simp [bytesOf]
    have e6 : (⟨(ren A).toArray⟩ : ByteArray).size = (ren A).length := by rw [size_list]
    have next := ih (fun t ht => hok t (by simp [ht])) (s.extract ((ren A).length + old.size) s.size) ((acc ++ bytesOf ⟨(ren A).toArray⟩) ++ bytesOf new) e2 (by rw [e3, List.length_append, List.length_append, e4, e5]; omega)
    refine Ev.step (f := fun k => (text_zzIndex.f k s old).bind fun t118 => (if t118 < 0 then (if acc.length + s.size < 140737488355328 then (some (strOfNums (acc ++ bytesOf s))) else (none)) else (if 0 ≤ t118 then (if t118 ≤ (s.size : Int) then (if acc.length + (s.extract 0 (t118 : Int).toNat).size < 140737488355328 then ((some (acc ++ bytesOf (s.extract 0 (t118 : Int).toNat) : List Int)).bind fun y122 => (if y122.length + new.size < 140737488355328 then (if 0 ≤ (wrap64 (t118 + (old.size : Int))) then (if (wrap64 (t118 + (old.size : Int))) ≤ (s.size : Int) then (text_zzReplaceAll.l1 k (s.extract ((wrap64 (t118 + (old.size : Int))) : Int).toNat s.size) old new (y122 ++ bytesOf new)) else (none)) else (none)) else (none))) else (none)) else (none)) else (none)))) (fun k => rfl) ?_
    refine Ev.bind (a := ((ren A).length : Int)) hi (Ev.congr (f := fun k => text_zzReplaceAll.l1 k (s.extract ((ren A).length + old.size) s.size) old new ((acc ++ bytesOf ⟨(ren A).toArray⟩) ++ bytesOf new)) (fun k => ?_) ?_)
    · have c1 : ¬ (((ren A).length : Int) < 0) := by omega
      have c2 : (0 : Int) ≤ ((ren A).length : Int) := by omega
      have c3 : ((ren A).length : Int) ≤ (s.size : Int) := by omega
      have c4 : acc.length + (⟨(ren A).toArray⟩ : ByteArray).size < 140737488355328 := by rw [e6]; omega
      have c5 : (acc ++ bytesOf (⟨(ren A).toArray⟩ : ByteArray)).length + new.size < 140737488355328 := by rw [List.length_append, e4]; omega
      have c6 : (0 : Int) ≤ (((ren A).length + old.size : Nat) : Int) := by omega
      have c7 : (((ren A).length + old.size : Nat) : Int) ≤ (s.size : Int) := by omega
      have e7 : wrap64 (((ren A).length : Int) + (old.size : Int)) = (((ren A).length + old.size : Nat) : Int) := by rw [wrap64_id (by omega) (by omega)]; omega
      rw [if_neg c1, if_pos c2, if_pos c3, e7]
      simp only [Int.toNat_natCast, e1, Option.bind_some]
      rw [if_pos c4, if_pos c5, if_pos c6, if_pos c7]
    · have : acc ++ bytesOf ⟨(ren A ++ new.data.toList ++ out).toArray⟩ = ((acc ++ bytesOf ⟨(ren A).toArray⟩) ++ bytesOf new) ++ bytesOf ⟨out.toArray⟩ := by
        rw [num_append, num_append]
      rw [this]
      exact next
end Go.Proofs.YthepbgakfkiliaaRDoor.Hand
