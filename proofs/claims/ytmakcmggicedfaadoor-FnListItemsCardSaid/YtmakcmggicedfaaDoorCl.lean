/- Texts of characters from 32 on, in valid UTF-8, as bytes: put together, cut, decoded and encoded. No program in sight. -/
import Derived.Test.YtmakcmggicedfaaDoorText
import Derived.Lib.MapLaws
import Derived.Lib.TrimAscii
import Derived.Stop.FmtQuoteTie
namespace Go.Proofs.YtmakcmggicedfaaDoor.Cl
open Go.RowKit Go.Proofs.YtmakcmggicedfaaDoorW.PrintWords Go.Proofs.YtmakcmggicedfaaDoor.Base

theorem getD_left (a b : List UInt8) (i : Nat) (h : i < a.length) : (a ++ b).getD i 0 = a.getD i 0 := by
  simp [List.getD, List.getElem?_append_left h]
/-- A valid rune at the head does not hang on what stands behind it. -/
theorem head_append (a b : List UInt8) (ha : a ≠ []) (h : (Lib.decodeL a).1 ≠ 65533) : Lib.decodeL (a ++ b) = Lib.decodeL a := by
  have hl : 0 < a.length := List.length_pos_iff.2 ha
  rw [Lib.decodeL_N] at h
  rw [Lib.decodeL_N, Lib.decodeL_N a, List.length_append]
  have e0 := getD_left a b 0 hl
  have g1 := getD_left a b 1
  have g2 := getD_left a b 2
  have g3 := getD_left a b 3
  rw [e0]
  rcases Lib.decodeN_shape a.length (a.getD 0 0).toNat (a.getD 1 0).toNat (a.getD 2 0).toNat (a.getD 3 0).toNat with ⟨c, e⟩ | ⟨c1, c2, c3, cv, e⟩ | ⟨c1, c2, c3, c4, cv, cs, e⟩ | ⟨c1, c2, c3, c4, c5, cv, cw, e⟩ | e
  · rw [e]
    unfold Lib.decodeN
    rw [if_pos c]
  · rw [e, g1 c2]
    unfold Lib.decodeN
    rw [if_neg (by omega), if_pos ⟨c1, by omega, c3⟩, if_pos (by omega)]
  · rw [e, g1 (by omega), g2 c2]
    unfold Lib.decodeN
    rw [if_neg (by omega), if_neg (by omega), if_pos ⟨c1, ⟨by omega, c3⟩, by omega, c4⟩, if_pos (by omega)]
  · rw [e, g1 (by omega), g2 (by omega), g3 c2]
    unfold Lib.decodeN
    rw [if_neg (by omega), if_neg (by omega), if_neg (by omega), if_pos ⟨c1, ⟨by omega, c3⟩, ⟨by omega, c4⟩, by omega, c5⟩, if_pos (by omega)]
  · rw [e] at h
    exact absurd rfl h

inductive Cl : List UInt8 → Prop
  | nil : Cl []
  | cons (l : List UInt8) (hne : l ≠ []) (h1 : 32 ≤ (Lib.decodeL l).1) (h2 : (Lib.decodeL l).1 ≠ 65533) (h3 : Cl (l.drop (Lib.decodeL l).2)) : Cl l

theorem Cl.append {a b : List UInt8} (ha : Cl a) (hb : Cl b) : Cl (a ++ b) := by
  induction ha with
  | nil => exact hb
  | cons l hne h1 h2 h3 ih =>
    have e := head_append l b hne h2
    refine Cl.cons (l ++ b) (by simp [hne]) (by rw [e]; exact h1) (by rw [e]; exact h2) ?_
    rw [e, List.drop_append_of_le_length (Lib.decodeL_le l hne)]
    exact ih
theorem Cl.ascii : ∀ {l : List UInt8}, (∀ x ∈ l, 32 ≤ x.toNat ∧ x.toNat < 128) → Cl l
  | [], _ => .nil
  | x :: l, h => by
    have hx := h x (by simp)
    have e := Lib.decodeL_ascii x l hx.2
    refine Cl.cons (x :: l) (by simp) (by rw [e]; exact hx.1) (by rw [e]; show x.toNat ≠ 65533; omega) ?_
    rw [e]
    exact Cl.ascii (fun y hy => h y (List.mem_cons_of_mem _ hy))
theorem Cl.flatten : ∀ {ls : List (List UInt8)}, (∀ l ∈ ls, Cl l) → Cl ls.flatten
  | [], _ => .nil
  | l :: ls, h => by
    rw [List.flatten_cons]
    exact (h l (by simp)).append (Cl.flatten fun y hy => h y (by simp [hy]))
theorem getD_mem (l : List UInt8) (i : Nat) (h : i < l.length) : l.getD i 0 ∈ l := by simp [List.getD, h]
theorem take_bytes (l : List UInt8) (hne : l ≠ []) (h1 : 32 ≤ (Lib.decodeL l).1) (h2 : (Lib.decodeL l).1 ≠ 65533) : ∀ x ∈ l.take (Lib.decodeL l).2, 32 ≤ x.toNat := by
  have hl : 0 < l.length := List.length_pos_iff.2 hne
  rw [Lib.decodeL_N] at h1 h2 ⊢
  rcases Lib.decodeN_shape l.length (l.getD 0 0).toNat (l.getD 1 0).toNat (l.getD 2 0).toNat (l.getD 3 0).toNat with ⟨c, e⟩ | ⟨c1, c2, c3, cv, e⟩ | ⟨c1, c2, c3, c4, cv, cs, e⟩ | ⟨c1, c2, c3, c4, c5, cv, cw, e⟩ | e
  · rw [e] at h1 ⊢
    dsimp only at h1 ⊢
    rw [Lib.takeA l hl]
    intro x hx
    simp only [List.mem_cons, List.not_mem_nil, or_false] at hx
    subst hx
    exact h1
  · rw [e]
    dsimp only
    rw [Lib.takeB l c2]
    intro x hx
    simp only [List.mem_cons, List.not_mem_nil, or_false] at hx
    rcases hx with rfl | rfl <;> omega
  · rw [e]
    dsimp only
    rw [Lib.takeC l c2]
    intro x hx
    simp only [List.mem_cons, List.not_mem_nil, or_false] at hx
    rcases hx with rfl | rfl | rfl <;> omega
  · rw [e]
    dsimp only
    rw [Lib.takeD l c2]
    intro x hx
    simp only [List.mem_cons, List.not_mem_nil, or_false] at hx
    rcases hx with rfl | rfl | rfl | rfl <;> omega
  · rw [e] at h2
    exact absurd rfl h2
theorem Cl.bytes {l : List UInt8} (h : Cl l) : ∀ x ∈ l, 32 ≤ x.toNat := by
  induction h with
  | nil => intro x hx; cases hx
  | cons l hne h1 h2 h3 ih =>
    intro x hx
    rw [← List.take_append_drop (Lib.decodeL l).2 l] at hx
    rcases List.mem_append.1 hx with hx | hx
    · exact take_bytes l hne h1 h2 x hx
    · exact ih x hx
theorem Cl.no {l : List UInt8} (h : Cl l) (c : UInt8) (hc : c.toNat < 32) : c ∉ l := fun hm => by
  have := h.bytes c hm
  omega
theorem enc_head (l : List UInt8) (hne : l ≠ []) (h2 : (Lib.decodeL l).1 ≠ 65533) : (Go.Utf8.encode ((Lib.decodeL l).1 : Int)).data.toList = l.take (Lib.decodeL l).2 := by
  rw [← Lib.encode_decode l hne (fun h => h2 h.1)]
  have h := Go.Extern.FmtText.encode_eq (Lib.decodeL l).1
  unfold Lib.encodeRune
  rw [← h]
  simp [Go.Extern.FmtText.nums]
  have e : ((fun x : Int => UInt8.ofNat x.toNat) ∘ fun x : UInt8 => (x.toNat : Int)) = id := by
    funext x
    simp
  rw [e, List.map_id]
/-- A line feed at the head. -/
theorem head_lf (l : List UInt8) : Lib.decodeL (10 :: l) = (10, 1) := Lib.decodeL_ascii 10 l (by decide)
end Go.Proofs.YtmakcmggicedfaaDoor.Cl
