/- A row of whole numbers in memory, known by its numbers: what is read there, what a store does; runes of ASCII text. -/
import Derived.Test.YtienokiifhcelaaDoorBase
import Derived.Lib.ConvBytes
import Derived.Laws.Cover4
import Derived.Laws.IdiomStrings
import Derived.Laws.RangeString
import Derived.Deep.LoopGhost
import Derived.WalkKit
import Derived.OwnWalk
import Derived.Handy
import Derived.Deep.DeepCutAuto
import Derived.Deep.CutBlock
namespace Go.Proofs.YtienokiifhcelaaDoor.Hand
open Go.RowKit Go.Proofs.YtienokiifhcelaaDoorW.PrintWords Go.Proofs.YtienokiifhcelaaDoor.Base
set_option linter.unusedVariables false
set_option linter.unusedSimpArgs false

/-- The block R begins with these numbers; no place of theirs is closed. -/
def Rw (W : World) (R : Nat) (t : TypeId) (k : IntKind) (xs : List Int) : Prop :=
  ∃ pad lo hi, W.heap[R]? = some (.cells (xs.map (Value.int k) ++ pad).toArray t (lo, hi)) ∧ ∀ j, j < xs.length → ¬ (lo ≤ j ∧ j < hi)
theorem Rw.cell {W : World} {R : Nat} {t : TypeId} {k : IntKind} {xs : List Int} (h : Rw W R t k xs) (i : Nat) (v : Int) (hv : xs[i]? = some v) : W.cell? ⟨R, i, none⟩ = some (.int k v) := by
  obtain ⟨pad, lo, hi, hb, _⟩ := h
  rw [cell_of_row W R i _ t (lo, hi) hb]
  have hlt : i < xs.length := by
    rcases Nat.lt_or_ge i xs.length with h | h
    · exact h
    · rw [List.getElem?_eq_none h] at hv; cases hv
  have : (xs.map (Value.int k) ++ pad)[i]? = some (.int k v) := by
    rw [List.getElem?_append_left (by simpa using hlt), List.getElem?_map, hv]
    rfl
  simpa using this
theorem Rw.frozen {W : World} {R : Nat} {t : TypeId} {k : IntKind} {xs : List Int} (h : Rw W R t k xs) (i : Nat) (hi : i < xs.length) : W.frozen? ⟨R, i, none⟩ = false := by
  obtain ⟨pad, lo, hh, hb, hm⟩ := h
  have := hm i hi
  simp only [World.frozen?, hb]
  simp only [Bool.and_eq_false_iff, decide_eq_false_iff_not]
  omega
theorem Rw.set {W : World} {R : Nat} {t : TypeId} {k : IntKind} {xs : List Int} (h : Rw W R t k xs) (i : Nat) (v : Int) (hi : i < xs.length) : Rw (W.setCell ⟨R, i, none⟩ (.int k v)) R t k (xs.set i v) := by
  obtain ⟨pad, lo, hh, hb, hm⟩ := h
  refine ⟨pad, lo, hh, ?_, fun j hj => hm j (by simpa using hj)⟩
  have : ((xs.map (Value.int k) ++ pad).toArray).setIfInBounds i (.int k v) = ((xs.set i v).map (Value.int k) ++ pad).toArray := by
    rw [List.setIfInBounds_toArray, List.set_append_left _ _ (by simpa using hi), List.map_set]
  simp [World.setCell, Array.getElem?_modify, hb, -List.setIfInBounds_toArray]
  rw [this]
  simp
theorem Rw.below {W W' : World} {R : Nat} {t : TypeId} {k : IntKind} {xs : List Int} (h : Rw W R t k xs) (hb : Below W.heap.size W W') : Rw W' R t k xs := by
  obtain ⟨pad, lo, hh, hx, hm⟩ := h
  exact ⟨pad, lo, hh, blk_below hx hb, hm⟩
theorem Rw.lt {W : World} {R : Nat} {t : TypeId} {k : IntKind} {xs : List Int} (h : Rw W R t k xs) : R < W.heap.size := by
  obtain ⟨pad, lo, hh, hx, hm⟩ := h
  exact blk_lt hx

def codes (l : List UInt8) : List Int := l.map fun b => (b.toNat : Int)
theorem codes_len (l : List UInt8) : (codes l).length = l.length := by simp [codes]
theorem codes_at (l : List UInt8) (i : Nat) (b : UInt8) (h : l[i]? = some b) : (codes l)[i]? = some (b.toNat : Int) := by simp [codes, h]
def Ascii (s : ByteArray) : Prop := ∀ b ∈ s.data.toList, b.toNat < 128

theorem runes_from (s : ByteArray) (h : Ascii s) : ∀ (n i : Nat) (acc : Array Value), i + n = s.size → Conv.runesFrom s n i acc = acc ++ ((codes (s.data.toList.drop i)).map (Value.int .i32)).toArray
  | 0, i, acc, e => by
    rw [Conv.runesFrom, List.drop_eq_nil_of_le (by rw [← size_list]; omega)]
    simp [codes]
  | n + 1, i, acc, e => by
    have hi : i < s.size := by omega
    have hi' : i < s.data.toList.length := by rw [← size_list]; exact hi
    have hb : (s[i]'hi).toNat < 128 := h _ (Array.getElem_mem_toList (xs := s.data) hi)
    rw [Conv.runesFrom, if_pos hi, Go.decode_ascii s i hi hb]
    show Conv.runesFrom s n (i + 1) _ = _
    rw [runes_from s h n (i + 1) _ (by omega), List.drop_eq_getElem_cons hi']
    have : s.data.toList[i] = s[i]'hi := rfl
    rw [this]
    simp [codes]
theorem runes_all (s : ByteArray) (h : Ascii s) : Conv.runesFrom s s.size 0 #[] = ((codes s.data.toList).map (Value.int .i32)).toArray := by
  rw [runes_from s h s.size 0 #[] (by omega)]
  simp
theorem runesBytes_ascii (l : List UInt8) (h : ∀ b ∈ l, b.toNat < 128) : runesBytes (codes l) = ⟨l.toArray⟩ := by
  have : ∀ (l : List UInt8) (r : ByteArray), (∀ b ∈ l, b.toNat < 128) → (codes l).foldl (fun r n => r ++ Utf8.encode n) r = ⟨r.data ++ l.toArray⟩ := by
    intro l
    induction l with
    | nil => intro r _; simp [codes]
    | cons b t ih =>
      intro r hh
      have hb := hh b (List.mem_cons_self ..)
      show (codes t).foldl _ (r ++ Utf8.encode (b.toNat : Int)) = _
      rw [ih _ (fun c hc => hh c (List.mem_cons_of_mem _ hc)), encode_ascii (by omega) (by omega)]
      apply bytes_ext
      simp
  unfold runesBytes
  rw [this l _ h]
  have he0 : ByteArray.empty.data = #[] := rfl
  rw [he0]
  simp
/-- '[]rune(s)' of ASCII text: a new row with the bytes as numbers. -/
theorem to_runes {P : Program} (w : World) (src dst e : TypeId) (s : ByteArray) (hs : P.underlying src = some .string) (hd : P.underlying dst = some (.slice e)) (he : P.underlying e = some (.int .i32)) (h : Ascii s) (hz : s.size ≤ 70368744177664) :
    ∃ cap w1, (convert src dst (.string s)).run P w = .ok (.slice (some ⟨w.heap.size, 0, none⟩) s.data.toList.length cap) w1 ∧ Rw w1 w.heap.size e .i32 (codes s.data.toList) ∧ Below w.heap.size w w1 ∧ s.data.toList.length ≤ cap := by
  have hr := run_runes_of_string w src dst e s hs hd he (by rw [runes_all s h]; simpa [codes] using hz)
  rw [runes_all s h] at hr
  have hl : (((codes s.data.toList).map (Value.int .i32)).toArray).size = s.data.toList.length := by simp [codes]
  rw [hl] at hr
  refine ⟨_, _, hr, ⟨List.replicate (grownCap w s.data.toList.length 0 e - s.data.toList.length) (.int .i32 0), 0, 0, ?_, fun j _ => by omega⟩, (below_drew (Below.refl _ _)).alloc (Nat.le_refl _) _, ?_⟩
  · have : (w.drew.alloc (.cells (((codes s.data.toList).map (Value.int .i32)).toArray ++ Array.replicate (grownCap w s.data.toList.length 0 e - s.data.toList.length) (.int .i32 0)) e)).heap[w.drew.heap.size]? = _ := blk_new w.drew _
    refine this.trans ?_
    congr 2
    apply Array.ext'
    simp
  · exact grownCap_ge w s.data.toList.length 0 e
/-- '[]byte(s)'. -/
theorem to_bytes {P : Program} (w : World) (src dst e : TypeId) (s : ByteArray) (hs : P.underlying src = some .string) (hd : P.underlying dst = some (.slice e)) (he : P.underlying e = some (.int .u8)) :
    ∃ cap w1, (convert src dst (.string s)).run P w = .ok (.slice (some ⟨w.heap.size, 0, none⟩) s.data.toList.length cap) w1 ∧ Rw w1 w.heap.size e .u8 (codes s.data.toList) ∧ Below w.heap.size w w1 ∧ s.data.toList.length ≤ cap := by
  have hr := run_bytes_of_string w src dst e s hs hd he
  rw [size_list] at hr
  refine ⟨_, _, hr, ⟨List.replicate (grownCap w s.data.toList.length 0 e - s.data.toList.length) (.int .u8 0), (bytesRow s (grownCap w s.data.toList.length 0 e)).size, (bytesRow s (grownCap w s.data.toList.length 0 e)).size + 1, ?_, fun j hj => ?_⟩, (below_drew (Below.refl _ _)).alloc (Nat.le_refl _) _, ?_⟩
  · have : (w.drew.alloc (.cells (bytesRow s (grownCap w s.data.toList.length 0 e)) e ((bytesRow s (grownCap w s.data.toList.length 0 e)).size, (bytesRow s (grownCap w s.data.toList.length 0 e)).size + 1))).heap[w.drew.heap.size]? = _ := blk_new w.drew _
    refine this.trans ?_
    congr 2
    apply Array.ext'
    have hz : s.size = s.data.toList.length := size_list s
    simp [bytesRow, codes, hz, -Array.length_toList, -ByteArray.size_data]
  · rw [codes_len] at hj
    have : s.data.toList.length ≤ (bytesRow s (grownCap w s.data.toList.length 0 e)).size := by simp [bytesRow]
    omega
  · exact grownCap_ge w s.data.toList.length 0 e
theorem of_runes {P : Program} (w : World) (src dst e : TypeId) (R cap : Nat) (l : List UInt8) (hs : P.underlying src = some (.slice e)) (he : P.underlying e = some (.int .i32)) (hd : P.underlying dst = some .string) (hr : Rw w R e .i32 (codes l)) (h : ∀ b ∈ l, b.toNat < 128) :
    (convert src dst (.slice (some ⟨R, 0, none⟩) l.length cap)).run P w = .ok (.string ⟨l.toArray⟩) w := by
  have := run_convert_runes w src dst e ⟨R, 0, none⟩ l.length cap (codes l) (by rw [codes_len]; exact Nat.le_refl _) hs he hd (fun j hj => by
    have e : (⟨R, 0, none⟩ : Addr).add j = ⟨R, j, none⟩ := by simp [Addr.add]; exact fun h => h.symm
    rw [e]
    exact hr.cell j _ (by simp [List.getD, List.getElem?_eq_getElem hj]))
  rw [this, List.take_of_length_le (by rw [codes_len]; exact Nat.le_refl _), runesBytes_ascii l h]
theorem of_bytes {P : Program} (w : World) (src dst e : TypeId) (R cap : Nat) (l : List UInt8) (hs : P.underlying src = some (.slice e)) (he : P.underlying e = some (.int .u8)) (hd : P.underlying dst = some .string) (hr : Rw w R e .u8 (codes l)) :
    (convert src dst (.slice (some ⟨R, 0, none⟩) l.length cap)).run P w = .ok (.string ⟨l.toArray⟩) w := by
  exact run_convert_bytes_back w src dst e ⟨R, 0, none⟩ cap l hs he hd (fun j hj => by
    have e : (⟨R, 0, none⟩ : Addr).add j = ⟨R, j, none⟩ := by simp [Addr.add]; exact fun h => h.symm
    rw [e]
    exact hr.cell j _ (codes_at l j _ (List.getElem?_eq_getElem hj)))
end Go.Proofs.YtienokiifhcelaaDoor.Hand
