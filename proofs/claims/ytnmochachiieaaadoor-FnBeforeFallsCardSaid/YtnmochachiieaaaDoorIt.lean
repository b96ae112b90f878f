/- A range over a string as one block of memory that a walk carries along: its making, its steps, and what they leave alone. No program in sight. -/
import Derived.Test.YtnmochachiieaaaDoorWWords
import Derived.Test.YtnmochachiieaaaDoorWApart
import Derived.Test.YtnmochachiieaaaDoorWMore
import Derived.Laws.RangeAny
import Derived.Lib.OthersKept
namespace Go.Proofs.YtnmochachiieaaaDoor.It
open Go.RowKit Go.Proofs.YtnmochachiieaaaDoorW.PrintWords

/-- Where the range stands, as Go's int. -/
def itK (pos : Int) : Int := (pos.toNat : Int)
/-- The rune there. -/
def itR (s : ByteArray) (pos : Int) : Int := ((Go.Utf8.decode s pos.toNat).1 : Int)
/-- Where it stands behind that rune. -/
def itP (s : ByteArray) (pos : Int) : Int := ((pos.toNat + (Go.Utf8.decode s pos.toNat).2 : Nat) : Int)

section
variable {P : Program} {ops : Array Oper} {rest : List Oper} {o : Oper} {a : Act} {Q : Exit → Act → World → Prop}
theorem range_event {W : World} (hgd : o.guard = none) {N : Tmp} (_hd : o.dst = some N) {t : TypeId} {x : Operand} {s : ByteArray} (ho : o.op = .range t x) (ht : P.underlying t = some .string) (hx : a.eval x = .string s)
    (h : ∀ g, g = W.heap.size → ∀ w1, w1.heap[g]? = some (.stringIter s (0 : Int).toNat) → Below W.heap.size W w1 → wpList P ops Q rest (a.put o.dst (.pointer (some ⟨g, 0, none⟩))) w1) : wpList P ops Q (o :: rest) a W := by
  refine Kd.event_run (v := .pointer (some ⟨W.heap.size, 0, none⟩)) (w1 := W.iter s 0) hgd ?_ (h _ rfl _ (W.iter_heap s 0) (below_alloc (Below.refl _ _) _))
  have hr := run_range_string W t s ht
  unfold execOp
  simp only [ho, hx, Sem.run_bind, hr, Result.andThen_ok]
  rfl
theorem grown_iterAt {W : World} {g : Nat} {s : ByteArray} {p q : Nat} (_hk : W.heap[g]? = some (.stringIter s p)) : W.grownBy (W.iterAt g s q) (some g) :=
  ⟨rfl, rfl, rfl, Nat.le_of_eq (Lib.iterAt_size W g s q).symm, fun i _ hi => Lib.iterAt_other W g i s q (fun e => hi (by rw [e]))⟩
set_option linter.unusedVariables false in
theorem next_yes {W : World} (hgd : o.guard = none) {N : Tmp} (_hd : o.dst = some N) {x : Operand} {g : Nat} {s : ByteArray} {pos : Int} (ho : o.op = .next x true) (hx : a.eval x = .pointer (some ⟨g, 0, none⟩))
    (hk : W.heap[g]? = some (.stringIter s pos.toNat)) (hp : itK pos < (s.size : Int))
    (h : ∀ w1, W.grownBy w1 (some g) → w1.heap[g]? = some (.stringIter s (itP s pos).toNat) → wpList P ops Q rest (a.put o.dst (.tuple #[.bool true, .int .i64 (itK pos), .int .i32 (itR s pos)])) w1) : wpList P ops Q (o :: rest) a W := by
  have hp' : pos.toNat < s.size := by unfold itK at hp; omega
  refine Kd.event_run (v := .tuple #[.bool true, .int .i64 (itK pos), .int .i32 (itR s pos)]) (w1 := W.iterAt g s (pos.toNat + (Go.Utf8.decode s pos.toNat).2)) hgd ?_ (h _ (grown_iterAt hk) (Lib.iterAt_heap W g s _ _ hk))
  have hr := Lib.run_next_any_at (P := P) W g s pos.toNat o.type hk hp'
  unfold execOp
  simp only [ho, hx, Sem.run_bind, hr, Result.andThen_ok]
  rfl
theorem next_no {W : World} (hgd : o.guard = none) {N : Tmp} (_hd : o.dst = some N) {x : Operand} {g : Nat} {s : ByteArray} {pos : Int} (ho : o.op = .next x true) (hx : a.eval x = .pointer (some ⟨g, 0, none⟩))
    (hk : W.heap[g]? = some (.stringIter s pos.toNat)) (hp : ¬ itK pos < (s.size : Int))
    (h : wpList P ops Q rest (a.put o.dst (.tuple #[.bool false])) W) : wpList P ops Q (o :: rest) a W := by
  have hp' : ¬ pos.toNat < s.size := by unfold itK at hp; omega
  refine Kd.event_run (v := .tuple #[.bool false]) (w1 := W) hgd ?_ h
  have hr := Lib.run_next_end_at (P := P) W g s pos.toNat o.type hk hp'
  unfold execOp
  simp only [ho, hx, Sem.run_bind, hr, Result.andThen_ok]
  rfl
end

section
variable {α : Type} {d : Kd α} {e : Nat} {w w1 : World} {base : Nat} {ok : Nat → Prop} {v : Value} {xs : List α} {g p : Nat} {s : ByteArray}
theorem cells_ne {k q : Nat} (hb : w.heap[g]? = some (.stringIter s p)) (hc : ∃ cells, w.heap[k]? = some (.cells cells q (0, 0))) : k ≠ g := by
  rintro rfl
  obtain ⟨cells, hc⟩ := hc
  rw [hc] at hb
  cases hb
/-- A row is none of a range's block. -/
theorem R_ne (h : d.R e w base ok v xs) (hb : w.heap[g]? = some (.stringIter s p)) : some g ≠ v.ownBlock := fun he => cells_ne hb (Kd.R_typed h g he.symm) rfl
theorem S_ne (h : Kd.S d e w base ok v xs) (hb : w.heap[g]? = some (.stringIter s p)) : some g ≠ v.ownBlock := fun he => cells_ne hb (Kd.S_typed h g he.symm) rfl
/-- A row stays over a range's step. -/
theorem R_iter (h : d.R e w base ok v xs) (hb : w.heap[g]? = some (.stringIter s p)) (hg : w.grownBy w1 (some g)) : d.R e w1 base ok v xs :=
  Kd.R_mono (Kd.R_move (Kd.R_bound h) (fun k hk => hg.block k hk.2.2.1 (by
    obtain ⟨_, _, _, q, _, hc⟩ := hk
    intro e
    exact cells_ne hb hc (Option.some.inj e)))) (fun _ hk => hk.1)
theorem S_iter (h : Kd.S d e w base ok v xs) (hb : w.heap[g]? = some (.stringIter s p)) (hg : w.grownBy w1 (some g)) : Kd.S d e w1 base ok v xs :=
  Kd.S_mono (Kd.S_move (Kd.S_bound h) (fun k hk => hg.block k hk.2.2.1 (by
    obtain ⟨_, _, _, q, _, hc⟩ := hk
    intro e
    exact cells_ne hb hc (Option.some.inj e)))) (fun _ hk => hk.1)
theorem Q_ne (h : d.Q e w base ok v xs) (hb : w.heap[g]? = some (.stringIter s p)) : some g ≠ v.ownBlock := by
  have h1 := (Kd.Q_bound h).1
  intro he
  obtain ⟨_, _, _, q, _, hc⟩ := h1 g he.symm
  exact cells_ne hb hc rfl
theorem Q_iter (h : d.Q e w base ok v xs) (hb : w.heap[g]? = some (.stringIter s p)) (hg : w.grownBy w1 (some g)) : d.Q e w1 base ok v xs :=
  Kd.Q_mono (Kd.Q_move (Kd.Q_bound h) (fun k hk => hg.block k hk.2.2.1 (by
    obtain ⟨_, _, _, q, _, hc⟩ := hk
    intro e
    exact cells_ne hb hc (Option.some.inj e)))) (fun _ hk => hk.1)
theorem below_iter {B : Nat} {w0 : World} (h : Below B w0 w) (hB : B ≤ w.heap.size) (hg : w.grownBy w1 (some g)) (hle : B ≤ g) : Below B w0 w1 :=
  pw_below_grown h (some g) hB hg (fun k hk => by cases hk; exact hle)
theorem blk_iter {g' : Nat} {o : Obj} (h : w.heap[g']? = some o) (hne : g' ≠ g) (hg : w.grownBy w1 (some g)) : w1.heap[g']? = some o :=
  (hg.block g' (blk_lt h) (fun e => hne (Option.some.inj e))).trans h
theorem blk_farO {o : Obj} (h : w.heap[g]? = some o) {q : Addr} (hp : g ≠ q.block) (u : Value) : (w.setCell q u).heap[g]? = some o := (Below.heap_setCell w q u g hp).trans h
end

section
variable {P : Program} {ops : Array Oper} {rest : List Oper} {o : Oper} {a : Act} {Q : Exit → Act → World → Prop}
/-- An element of an array that is written out. -/
theorem arr_event {W : World} (hgd : o.guard = none) {N : Tmp} (_hd : o.dst = some N) {T : TypeId} {x i : Operand} {xs : Array Value} {k : IntKind} {j : Int} {r : Value} (ho : o.op = .index T x i) (hx : a.eval x = .agg xs) (hi : a.eval i = .int k j)
    (hrun : (Instr.index T (.agg xs) (.int k j)).run P W = .ok r W) (h : wpList P ops Q rest (a.put o.dst r) W) : wpList P ops Q (o :: rest) a W := by
  refine Kd.event_run (v := r) (w1 := W) hgd ?_ h
  unfold execOp
  simp only [ho, hx, hi, Sem.run_bind, hrun, Result.andThen_ok]
  rfl
/-- '[]byte(s)': a row that is read. -/
theorem conv_event {W : World} (hgd : o.guard = none) {N : Tmp} (_hd : o.dst = some N) {src dst e : TypeId} {x : Operand} {s : ByteArray} (ho : o.op = .convert src dst x) {u : TypeDesc} (hs : P.underlying src = some u) (hd : P.underlying dst = some (.slice e)) (he : P.underlying e = some (.int .u8))
    (hx : a.eval x = .string s) (hsz : s.size ≤ 9223372036854775807)
    (h : ∀ A c w1, (Kd.int .u8).C w1 A (bytesOf s).length (bytesOf s) → (bytesOf s).length ≤ c → Below W.heap.size W w1 → (∀ ad, A = some ad → W.heap.size ≤ ad.block) → wpList P ops Q rest (a.put o.dst (.slice A (bytesOf s).length c)) w1) : wpList P ops Q (o :: rest) a W := by
  have hl : (bytesOf s).length = s.size := bytesOf_length s
  have hr := Lib.run_convert_string_bytes (P := P) W src dst e s hs hd he
  have hC : (Kd.int .u8).C (Lib.bytesWorld W e s) (some ⟨W.heap.size, 0, none⟩) (bytesOf s).length (bytesOf s) := by
    have h1 := bytes_reads W e s hsz
    rw [← hl] at h1
    exact Kd.C_of_reads (d := (0 : Int)) (h1 := fun _ => rfl) h1
  have hcap : (bytesOf s).length ≤ grownCap W s.size 0 e := by
    rw [hl]
    exact grownCap_ge W s.size 0 e
  have hb : Below W.heap.size W (Lib.bytesWorld W e s) := ⟨rfl, rfl, rfl, by rw [Lib.bytesWorld_size]; omega, fun i hi => Lib.bytesWorld_at_old W e s i hi⟩
  refine Kd.event_run (v := .slice (some ⟨W.heap.size, 0, none⟩) (bytesOf s).length (grownCap W s.size 0 e)) (w1 := Lib.bytesWorld W e s) hgd ?_ (h _ _ _ hC hcap hb (fun ad e => by cases e; exact Nat.le_refl _))
  rw [hl]
  unfold execOp
  simp only [ho, hx, Sem.run_bind, hr, Result.andThen_ok]
  rfl
end
theorem bne_nil (l : List UInt8) : (l != ([] : List UInt8)) = !l.isEmpty := by cases l <;> rfl
end Go.Proofs.YtnmochachiieaaaDoor.It
