/- The number's column of a separator. -/
import Derived.Test.YtedknmaaaaomoaaHandMdB
import Derived.Test.YtedknmaaaaomoaaHandRepeat
namespace Go.Proofs.Ytedknmaaaaomoaa.Hand
open Go.RowKit Go.Proofs.YtedknmaaaaomoaaW.PrintWords Go.Proofs.YtedknmaaaaomoaaW.PrintMore Go.Proofs.Ytedknmaaaaomoaa.Base
set_option linter.unusedVariables false
set_option linter.unusedSimpArgs false

theorem ok_blk {e : TypeId} {b h : Nat} {w w' : World} {cs : Array Value} {t : TypeId} {f : Nat × Nat} (k : Lib.OthersKept e (some b) w w') (hh : w.heap[h]? = some (.cells cs t f)) (hb : h ≠ b) (ht : t ≠ e) : w'.heap[h]? = some (.cells cs t f) :=
  (k h _ hh (by simpa using hb) (fun c fz e => by simp only [Obj.cells.injEq] at e; exact ht e.2.1))
abbrev IsB (b : Nat) (l : List UInt8) (w : World) : Prop := Lib.IsBuilderF 98 5 b b (Lib.byteCells l) w
theorem IsB.keep {b : Nat} {l : List UInt8} {w w' : World} (h : IsB b l w) (hb : Below w.heap.size w w') : IsB b l w' := by
  have key : ∀ p, Lib.BuilderAtF 98 5 b b p (Lib.byteCells l) w → Lib.BuilderAtF 98 5 b b p (Lib.byteCells l) w' := by
    rintro p ⟨hB, v, hv, hown, hne⟩
    refine ⟨hB, v, blk_below hv hb, ?_, hne⟩
    obtain ⟨h1, h2⟩ := hown
    refine ⟨h1, ?_⟩
    rcases h2 with h2 | ⟨g, cap, cur, fz, hv2, hg, hh, r⟩
    · exact .inl h2
    · exact .inr ⟨g, cap, cur, fz, hv2, hg, blk_below hh hb, r⟩
  rcases h with h | h
  · exact Or.inl (key _ h)
  · exact Or.inr (key _ h)
theorem rc_nat (c : Int) (h0 : 0 ≤ c) (h : c < 128) : Lib.runeCells c = Lib.byteCells [UInt8.ofNat c.toNat] := by
  obtain ⟨n, rfl⟩ := Int.eq_ofNat_of_zero_le h0
  exact runeCells_ascii n (by omega)
theorem bc_len (l : List UInt8) : (Lib.byteCells l).length = l.length := by simp [Lib.byteCells]
theorem bc_str (l : List UInt8) (s : ByteArray) : Lib.byteCells l ++ Lib.strCells s = Lib.byteCells (l ++ s.data.toList) := by rw [Lib.byteCells_append]; rfl
theorem wStr (b : Nat) (l : List UInt8) (s : ByteArray) (w : World) (h : IsB b l w) (hlen : l.length + s.size ≤ 100000000000) (hb : b ≤ w.heap.size) :
    Calls Try.prog 28 #[.pointer (some ⟨b, 0, none⟩), .string s] w fun e w' => e = .returned (.tuple #[.int .i64 s.size, .nilIface]) ∧ IsB b (l ++ s.data.toList) w' ∧ Below b w w' ∧ Lib.OthersKept 5 (some b) w w' := by
  refine (writeString b b _ s w h (by rw [bc_len]; omega) hb).mono ?_
  rintro e w' ⟨rfl, h1, h2, h3⟩
  rw [bc_str] at h1
  exact ⟨rfl, Or.inr h1, h2, h3⟩
theorem wRune (b : Nat) (l : List UInt8) (c : Int) (hc0 : 0 ≤ c) (hc : c < 128) (w : World) (h : IsB b l w) (hlen : l.length ≤ 100000000000) (hb : b ≤ w.heap.size) :
    Calls Try.prog 30 #[.pointer (some ⟨b, 0, none⟩), .int .i32 c] w fun e w' => e = .returned (.tuple #[.int .i64 1, .nilIface]) ∧ IsB b (l ++ [UInt8.ofNat c.toNat]) w' ∧ Below b w w' ∧ Lib.OthersKept 5 (some b) w w' := by
  refine (writeRune b b _ c (by omega) (by omega) w h (by rw [bc_len]; omega) hb).mono ?_
  rintro e w' ⟨rfl, h1, h2, h3⟩
  rw [rc_nat c hc0 hc] at h1 ⊢
  rw [← Lib.byteCells_append] at h1
  exact ⟨rfl, Or.inr h1, h2, h3⟩

theorem ok_al {e : TypeId} {g : Option Nat} (o : Obj) (w : World) : Lib.OthersKept e g w (w.alloc o) := fun h o' hh _ _ => blk_alloc hh _
theorem ok_bel {e : TypeId} {g : Option Nat} {w w' : World} (h : Below w.heap.size w w') : Lib.OthersKept e g w w' := fun k o' hh _ _ => blk_below hh h
theorem ok_tr {e : TypeId} {g : Option Nat} {w w1 w2 : World} (h1 : Lib.OthersKept e g w w1) (h2 : Lib.OthersKept e g w1 w2) : Lib.OthersKept e g w w2 := fun k o' hh hk ht => h2 k o' (h1 k o' hh hk ht) hk ht
/-- What stands in the number's column. -/
def idxT (idx pad : Bool) (width : Nat) (i : Nat) : List UInt8 :=
  if i = 0 ∧ idx = true then (if pad = true then (([32] ++ dashes width) ++ [58]) else [32] ++ [45, 45, 45, 58]) ++ [124] else []
theorem idxT_len (idx pad : Bool) (width i : Nat) (h : width ≤ 1000000) : (idxT idx pad width i).length ≤ 1000010 := by
  unfold idxT
  split
  · split <;> simp [dashes_len] <;> omega
  · simp

set_option maxHeartbeats 8000000 in
set_option maxRecDepth 100000 in
theorem autoIdx (b T S : Nat) (idx pad : Bool) (width i : Nat) (l : List UInt8) (w : World) (t1 : w.cell? ⟨T, 1, none⟩ = some (.bool idx)) (t2 : w.cell? ⟨T, 2, none⟩ = some (.int .i64 (width : Int))) (t39 : w.cell? ⟨T, 39, none⟩ = some (.pointer (some ⟨S, 0, none⟩))) (s43 : w.cell? ⟨S, 43, none⟩ = some (.bool pad))
    (hT : T < b) (hS : S < b) (hI : IsB b l w) (hb : b < w.heap.size) (hwd : width ≤ 1000000) (hl : l.length ≤ 10000000000) :
    Calls Try.prog 31 #[.pointer (some ⟨T, 0, none⟩), .pointer (some ⟨b, 0, none⟩), .int .i64 (i : Int), .agg hintS] w fun e w' => e = .returned (.tuple #[]) ∧ IsB b (l ++ idxT idx pad width i) w' ∧ Below b w w' ∧ Lib.OthersKept 5 (some b) w w' := by
  have B1 := Aside0.mk (below_alloc (Below.refl w.heap.size w) (.cells hintS 102))
  have X1 := Aside0.mk (blk_new w (.cells hintS 102))
  have I1 := Aside0.mk (hI.keep B1.out)
  replace t1 := cell_al t1 (.cells hintS 102)
  replace t2 := cell_al t2 (.cells hintS 102)
  replace t39 := cell_al t39 (.cells hintS 102)
  replace s43 := cell_al s43 (.cells hintS 102)
  have T1 := Aside0.mk t1
  have T2 := Aside0.mk t2
  have T39 := Aside0.mk t39
  have S43 := Aside0.mk s43
  clear t1 t2 t39 s43 hI
  show Calls Try.prog 31 #[.pointer (some ⟨T, 0, none⟩), .pointer (some ⟨b, 0, none⟩), .int .i64 (i : Int), .agg #[.bool false, .bool false, .bool false, .bool false, .bool false, .bool false, .bool false, .bool false, .bool false, .bool true, .bool false, .int .i64 0, .int .i64 0, .int .i64 0]] w _
  go_enter Try.func31, Try.ntmps31
  go_upto_region 1 with (fail)
  change Code.wp _ _ _ _ (w.alloc (.cells hintS 102))
  have hb1 : b < (w.alloc (.cells hintS 102)).heap.size := Nat.lt_of_lt_of_le hb B1.out.size
  have K1 := Aside0.mk (ok_al (e := 5) (g := some b) (.cells hintS 102) w)
  generalize (w.alloc (.cells hintS 102)) = w1 at B1 X1 I1 T1 T2 T39 S43 hb1 K1 ⊢
  obtain ⟨X, hX⟩ : ∃ X, w.heap.size = X := ⟨_, rfl⟩
  have BB := Aside0.mk (B1.out.mono (Nat.le_of_lt hb))
  rw [hX] at X1 ⊢
  have HX := Aside0.mk hX
  clear B1 hX
  have t1 := T1.out
  have t39 := T39.out
  have s43 := S43.out
  have x9 : w1.cell? ⟨X, 9, none⟩ = some (.bool true) := by rw [blk_cell X1.out]; rfl
  by_cases h0 : i = 0
  · subst h0
    cases idx with
    | true =>
      cases pad with
      | true =>
        have t2 := T2.out
        have hrep : strings_Repeat.f (⟨#[45]⟩ : ByteArray) (width : Int) = some ⟨(dashes width).toArray⟩ := by
          unfold strings_Repeat.f
          rw [if_pos ⟨by omega, by omega, by rw [Int.toNat_natCast]; show 1 * width ≤ _; omega⟩, Int.toNat_natCast]
          show some (⟨(Lib.repeatL [45] width).toArray⟩ : ByteArray) = _
          rw [rep_dash]
        have HREP := Aside0.mk hrep
        have e1 : (⟨#[32]⟩ : ByteArray).size = 1 := rfl
        have e2 : (⟨#[58]⟩ : ByteArray).size = 1 := rfl
        have e3 := dash_size width
        have z2 : ((⟨#[32]⟩ : ByteArray) ++ ⟨(dashes width).toArray⟩).size + (⟨#[58]⟩ : ByteArray).size ≤ 9223372036854775807 := by rw [ByteArray.size_append]; omega
        have z1 : (⟨#[32]⟩ : ByteArray).size + (⟨(dashes width).toArray⟩ : ByteArray).size ≤ 9223372036854775807 := by omega
        clear hrep
        go_wp2_with (first
          | (go_at_call 21; refine (strings_Repeat.calls ⟨#[45]⟩ (width : Int) _ w1 HREP.out).mono ?_; rintro e w2 ⟨rfl, b2⟩; have I2 := Aside0.mk (I1.out.keep b2); have B2 := Aside0.mk (BB.out.trans (b2.mono (Nat.le_of_lt hb1))); have hb2 := Nat.lt_of_lt_of_le hb1 b2.size; have K2 := Aside0.mk (ok_tr K1.out (ok_bel b2)); clear b2)
          | (go_at_call 28; with_reducible refine (wStr b l _ w2 I2.out (by rw [ByteArray.size_append, ByteArray.size_append]; omega) (Nat.le_of_lt hb2)).mono ?_; rintro e w3 ⟨rfl, i3, b3, k3⟩; have I3 := Aside0.mk i3; have B3 := Aside0.mk (B2.out.trans b3); have hb3 := Nat.lt_of_lt_of_le hb2 b3.size; have K3 := Aside0.mk (ok_tr K2.out k3); clear i3 b3 k3)
          | (go_at_call 30; with_reducible refine (wRune b _ 124 (by omega) (by omega) w3 I3.out (by simp [dashes_len]; omega) (Nat.le_of_lt hb3)).mono ?_; rintro e w4 ⟨rfl, i4, b4, k4⟩; have I4 := Aside0.mk i4; have B4 := Aside0.mk (B3.out.trans b4); have K4 := Aside0.mk (ok_tr K3.out k4); clear i4 b4 k4))
        go_end0
        refine ⟨rfl, ?_, B4.out, K4.out⟩
        have h4 := I4.out
        simpa [idxT, ByteArray.data_append] using h4
      | false =>
        have e4 : (⟨#[45, 45, 45, 58]⟩ : ByteArray).size = 4 := rfl
        go_wp2_with (first
          | (go_at_call 28; with_reducible refine (wStr b _ _ w2 I2.out (by rw [e4]; simp; omega) (Nat.le_of_lt hb2)).mono ?_; rintro e w3 ⟨rfl, i3, b3, k3⟩; have I3 := Aside0.mk i3; have B3 := Aside0.mk (B2.out.trans b3); have hb3 := Nat.lt_of_lt_of_le hb2 b3.size; have K3 := Aside0.mk (ok_tr K2.out k3); clear i3 b3 k3)
          | (go_at_call 30; with_reducible refine (wRune b l 32 (by omega) (by omega) w1 I1.out (by omega) (Nat.le_of_lt hb1)).mono ?_; rintro e w2 ⟨rfl, i2, b2, k2⟩; have I2 := Aside0.mk i2; have B2 := Aside0.mk (BB.out.trans b2); have hb2 := Nat.lt_of_lt_of_le hb1 b2.size; have K2 := Aside0.mk (ok_tr K1.out k2); clear i2 b2 k2)
          | (go_at_call 30; with_reducible refine (wRune b _ 124 (by omega) (by omega) w3 I3.out (by simp; omega) (Nat.le_of_lt hb3)).mono ?_; rintro e w4 ⟨rfl, i4, b4, k4⟩; have I4 := Aside0.mk i4; have B4 := Aside0.mk (B3.out.trans b4); have K4 := Aside0.mk (ok_tr K3.out k4); clear i4 b4 k4))
        go_end0
        refine ⟨rfl, ?_, B4.out, K4.out⟩
        have h4 := I4.out
        simpa [idxT] using h4
    | false =>
      go_wp2
      go_end0
      refine ⟨rfl, ?_, BB.out, K1.out⟩
      have h1 := I1.out
      simpa [idxT] using h1
  · have e0 : ((i : Int) == 0) = false := by simpa using h0
    go_wp2
    go_end0
    refine ⟨rfl, ?_, BB.out, K1.out⟩
    have h1 := I1.out
    simpa [idxT, h0] using h1
end Go.Proofs.Ytedknmaaaaomoaa.Hand
