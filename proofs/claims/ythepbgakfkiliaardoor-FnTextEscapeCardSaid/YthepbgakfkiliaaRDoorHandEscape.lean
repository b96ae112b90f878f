/- What text.Escape computes: the text with the sequence set anew behind each reset, between the sequence and a reset. -/
import Derived.Test.YthepbgakfkiliaaRDoorHandBld
import Derived.Test.YthepbgakfkiliaaRDoorPEscapex1
namespace Go.Proofs.YthepbgakfkiliaaRDoor.Hand
open Go.RowKit Go.Proofs.YthepbgakfkiliaaRDoor.PEscape Go.Proofs.YthepbgakfkiliaaRDoorW.PrintWords
set_option linter.unusedVariables false
set_option linter.unusedSimpArgs false

/-- All off. -/
abbrev RST : ByteArray := ⟨#[27, 91, 48, 109]⟩
abbrev ESB : ByteArray := ⟨#[27, 91]⟩

/-- What is set in front. -/
def escHead (p : Bool) (a1 : ByteArray) : List UInt8 := if p then [] else a1.data.toList
def escBody (p : Bool) (a1 t : ByteArray) : ByteArray := ⟨(escHead p a1 ++ t.data.toList).toArray⟩
def escTail (q : Bool) (p : Bool) (a1 t : ByteArray) : ByteArray := ⟨(escHead p a1 ++ t.data.toList ++ (if q then [] else RST.data.toList)).toArray⟩

def text_Escape.f (k : Nat) (a0 a1 : ByteArray) : Option ByteArray :=
  if a0.size ≤ 1000000000 ∧ a1.size ≤ 1000000000 then
    (strings_HasPrefix.f a0 ESB).bind fun p => (text_zzReplaceAll.f k a0 RST (RST ++ a1)).bind fun t =>
      if t.size ≤ 1000000000000 then (strings_HasSuffix.f (escBody p a1 t) RST).bind fun q => (text_zzContains.f k (escTail q p a1 t) (a1 ++ RST)).bind fun c =>
        if c then text_zzReplaceAll.f k (escTail q p a1 t) (a1 ++ RST) ⟨#[]⟩ else some (escTail q p a1 t)
      else none
  else none

theorem text_Escape.mono : ∀ a0 a1 k, LeO (text_Escape.f k a0 a1) (text_Escape.f (k + 1) a0 a1) := by
  intro a0 a1 k
  unfold text_Escape.f
  repeat' first
      | exact text_zzReplaceAll.mono _ _ _ _
      | exact text_zzContains.mono _ _ _
      | (with_reducible exact LeO.refl _)
      | exact LeO.none _
      | refine LeO.ite ?_ ?_
      | refine LeO.bind ?_ (fun _ => ?_)

theorem strCells_bytes (s : ByteArray) : Lib.strCells s = Lib.byteCells s.data.toList := rfl

/-- A builder stands behind what turns only what lies above it. -/
theorem isb_below {B b : Nat} {bs : List Value} {w w' : World} (h : Lib.IsBuilderF 54 5 B b bs w) (hb : Below w.heap.size w w') : Lib.IsBuilderF 54 5 B b bs w' := by
  have go : ∀ p, Lib.BuilderAtF 54 5 B b p bs w → Lib.BuilderAtF 54 5 B b p bs w' := by
    rintro p ⟨hB, v, hbk, hown, hne⟩
    have hl : ∀ (k : Nat) (x : Obj), w.heap[k]? = some x → w'.heap[k]? = some x := by
      intro k x hx
      rw [hb.block k (by
        rcases Nat.lt_or_ge k w.heap.size with h' | h'
        · exact h'
        · rw [Array.getElem?_eq_none h'] at hx; cases hx)]
      exact hx
    refine ⟨hB, v, hl _ _ hbk, ⟨hown.1, ?_⟩, hne⟩
    rcases hown.2 with h0 | ⟨g, cap, cur, fz, hv, hg, hgk, r⟩
    · exact .inl h0
    · exact .inr ⟨g, cap, cur, fz, hv, hg, hl _ _ hgk, r⟩
  exact h.imp (go _) (go _)
theorem isb_drewN {B b : Nat} {bs : List Value} {w : World} (h : Lib.IsBuilderF 54 5 B b bs w) (n : Nat) : Lib.IsBuilderF 54 5 B b bs (w.drewN n) := h

set_option maxHeartbeats 8000000 in
set_option maxRecDepth 100000 in
theorem text_Escape.calls (k : Nat) (a0 a1 : ByteArray) (r : ByteArray) (w : World) (h : text_Escape.f k a0 a1 = some r) :
    Calls Tryd.prog 22 #[.string a0, .string a1] w fun e w' => e = .returned (.string r) ∧ Below w.heap.size w w' := by
  unfold text_Escape.f at h
  split at h
  case isFalse => cases h
  rename_i hz
  obtain ⟨p, hp, h⟩ := Option.bind_eq_some_iff.mp h
  obtain ⟨t, ht, h⟩ := Option.bind_eq_some_iff.mp h
  split at h
  case isFalse => cases h
  rename_i hzt
  obtain ⟨q, hq, h⟩ := Option.bind_eq_some_iff.mp h
  obtain ⟨c, hc, h⟩ := Option.bind_eq_some_iff.mp h
  obtain ⟨hz0, hz1⟩ := hz
  go_enter Tryd.func22, Tryd.ntmps22
  go_wp2_with (go_at_call 28; refine calls_of_args (args' := #[.pointer (some ⟨w.heap.size, 0, none⟩), .int .i64 ((a0.size + a1.size * 3 + 8 : Nat) : Int)]) ?ar ((Tryd.Builder_Grow_fresh w.heap.size w.heap.size (a0.size + a1.size * 3 + 8) _ (Nat.le_refl _) ?g1 ?g2 ?g3).mono ?_))
  case ar =>
    have h1 : wrap64 ((a1.size : Int) * 3) = (a1.size : Int) * 3 := by unfold wrap64; omega
    have h2 : wrap64 ((a0.size : Int) + (a1.size : Int) * 3) = (a0.size : Int) + (a1.size : Int) * 3 := by unfold wrap64; omega
    have h3 : wrap64 ((a0.size : Int) + (a1.size : Int) * 3 + 8) = (a0.size : Int) + (a1.size : Int) * 3 + 8 := by unfold wrap64; omega
    first | (simp [h1, h2, h3]; done) | (simp [h1, h2, h3]; omega)
  case g1 => exact heap_alloc_new w _
  case g2 => exact below_size (below_alloc (Below.refl _ _) _)
  case g3 => omega
  rintro e w1 ⟨rfl, hb0, bl0⟩
  have I1 : Lib.IsBuilderF 54 5 w.heap.size w.heap.size (Lib.byteCells []) w1 := Or.inr (Lib.BuilderAtF.of hb0)
  have B1 : Below w.heap.size w w1 := (below_alloc (Below.refl _ _) _).trans bl0
  go_upto_if 17 with (go_at_call 29; refine (strings_HasPrefix.calls a0 ESB p _ hp).mono ?_; rintro e w' ⟨rfl, ⟨nd, rfl⟩⟩)
  have I2 := isb_drewN I1 nd
  have B2 : Below w.heap.size w (w1.drewN nd) := pw_below_drewN B1 nd
  clear I1 B1 hb0 bl0
  go_cut [] (fun wc => Lib.IsBuilderF 54 5 w.heap.size w.heap.size (Lib.byteCells (escHead p a1)) wc ∧ Below w.heap.size w wc)
  case first =>
    cases p with
    | true =>
      go_wp2
      go_meet
      case rel => exact ⟨I2, B2⟩
    | false =>
      go_wp2_with (go_at_call 30; refine (writeString w.heap.size w.heap.size _ a1 _ I2 ?sideL ?sideB).mono ?_)
      case sideL => simp [Lib.byteCells]; omega
      case sideB => exact B2.size
      rintro e w3 ⟨rfl, h3, b3, k3⟩
      go_wp2
      go_meet
      case rel => exact ⟨Or.inr h3, B2.trans b3⟩
  case rest =>
    clear I2 B2
    obtain ⟨I3, B3⟩ := hcut
    go_wp2_with (first
      | (go_at_call 31; refine (text_zzReplaceAll.calls k a0 RST (RST ++ a1) t _ (by decide) ht).mono ?_; rintro e w4 ⟨rfl, b4⟩)
      | (go_at_call 30; refine (writeString w.heap.size w.heap.size _ t _ (isb_below I3 b4) ?sideL ?sideB).mono ?_; (case sideL => rw [Lib.byteCells_length]; unfold escHead; split <;> simp <;> omega); (case sideB => exact (B3.trans (b4.mono B3.size)).size); rintro e w5 ⟨rfl, h5, b5, k5⟩))
    have I5 : Lib.IsBuilderF 54 5 w.heap.size w.heap.size (Lib.byteCells (escHead p a1 ++ t.data.toList)) w5 := by rw [Lib.byteCells_append]; exact Or.inr h5
    have B5 : Below w.heap.size w w5 := (B3.trans (b4.mono B3.size)).trans b5
    clear I3 B3 b4 h5 b5 k5
    go_upto_if 27 with (first
      | (go_at_call 33; refine (Tryd.Builder_String_any_k w.heap.size w.heap.size _ _ I5 B5.size).mono ?_; rintro e w6 ⟨rfl, I6, b6, k6⟩)
      | (go_at_call 32; refine (strings_HasSuffix.calls (escBody p a1 t) RST q _ hq).mono ?_; rintro e w7 ⟨rfl, ⟨nd, rfl⟩⟩))
    have I7 := isb_drewN I6 nd
    have B7 : Below w.heap.size w (w6.drewN nd) := pw_below_drewN (B5.trans b6) nd
    clear I5 B5 I6 b6 k6
    go_cut [] (fun wd => Lib.IsBuilderF 54 5 w.heap.size w.heap.size (Lib.byteCells (escTail q p a1 t).data.toList) wd ∧ Below w.heap.size w wd)
    case first =>
      cases q with
      | true =>
        go_wp2
        go_meet
        case rel => exact ⟨by simpa [escTail] using I7, B7⟩
      | false =>
        go_wp2_with (go_at_call 30; refine (writeString w.heap.size w.heap.size _ RST _ I7 ?sideL ?sideB).mono ?_)
        case sideL =>
          have hr : RST.size = 4 := rfl
          rw [Lib.byteCells_length, hr]; unfold escHead; split <;> simp <;> omega
        case sideB => exact B7.size
        rintro e w8 ⟨rfl, h8, b8, k8⟩
        go_wp2
        go_meet
        case rel =>
          refine ⟨Or.inr ?_, B7.trans b8⟩
          have e8 : (escTail false p a1 t).data.toList = escHead p a1 ++ t.data.toList ++ RST.data.toList := by simp [escTail]
          rw [e8, Lib.byteCells_append]
          exact h8
    case rest =>
      clear I7 B7
      obtain ⟨I8, B8⟩ := hcut
      cases c with
      | true =>
        rw [if_pos rfl] at h
        go_wp2_with (first
          | (go_at_call 33; refine (Tryd.Builder_String_any_k w.heap.size w.heap.size _ _ I8 B8.size).mono ?_; rintro e w9 ⟨rfl, I9, b9, k9⟩)
          | (go_at_call 34; refine (text_zzContains.calls k (escTail q p a1 t) (a1 ++ RST) true _ hc).mono ?_; rintro e w10 ⟨rfl, ⟨nd, rfl⟩⟩)
          | (go_at_call 31; refine (text_zzReplaceAll.calls k (escTail q p a1 t) (a1 ++ RST) ⟨#[]⟩ r _ (by rw [ByteArray.size_append]; have hr : RST.size = 4 := rfl; omega) h).mono ?_; rintro e w11 ⟨rfl, b11⟩))
        go_ret
        exact ⟨rfl, (pw_below_drewN (B8.trans b9) _).trans (b11.mono (pw_below_drewN (B8.trans b9) _).size)⟩
      | false =>
        rw [if_neg (by decide)] at h
        obtain rfl := Option.some.inj h
        go_wp2_with (first
          | (go_at_call 33; refine (Tryd.Builder_String_any_k w.heap.size w.heap.size _ _ I8 B8.size).mono ?_; rintro e w9 ⟨rfl, I9, b9, k9⟩)
          | (go_at_call 34; refine (text_zzContains.calls k (escTail q p a1 t) (a1 ++ RST) false _ hc).mono ?_; rintro e w10 ⟨rfl, ⟨nd, rfl⟩⟩))
        go_ret
        exact ⟨rfl, pw_below_drewN (B8.trans b9) _⟩
end Go.Proofs.YthepbgakfkiliaaRDoor.Hand
