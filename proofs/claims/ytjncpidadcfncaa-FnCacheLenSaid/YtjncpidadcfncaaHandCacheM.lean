/- The cache in memory: its entries, in line; its map. -/
import Derived.Test.YtjncpidadcfncaaProg
import Derived.Test.YtjncpidadcfncaaWMore
import Derived.Test.YtjncpidadcfncaaBase
import Derived.Maps.Own
import Derived.WalkArith
import Derived.Maps.OwnOps
import Derived.Maps.OwnSet
import Derived.Maps.Views
import Derived.Maps.RangeWalk
namespace Go.Proofs.Ytjncpidadcfncaa.Hand
open Go.RowKit Go.Proofs.YtjncpidadcfncaaW.PrintWords Go.Proofs.Ytjncpidadcfncaa.Base
open Go.Maps (Keyed)
set_option linter.unusedVariables false
set_option linter.unusedSimpArgs false

theorem blk_ne' {w : World} {g g' : Nat} {t t' : TypeId} {cs cs' : Array Value} {f f' : Nat × Nat} (h : w.heap[g]? = some (.cells cs t f)) (h' : w.heap[g']? = some (.cells cs' t' f')) (hne : t ≠ t') : g ≠ g' := by
  rintro rfl
  rw [h] at h'
  simp only [Option.some.injEq, Obj.cells.injEq] at h'
  exact hne h'.2.1
theorem map_ne {w : World} {g g' : Nat} {es : Array MapEntry} {k : Nat} {t' : TypeId} {cs' : Array Value} {f' : Nat × Nat} (h : w.heap[g]? = some (.map es k)) (h' : w.heap[g']? = some (.cells cs' t' f')) : g ≠ g' := by
  rintro rfl
  rw [h] at h'
  cases h'

/-- A pointer to an entry, or none. -/
def pE : Option Nat → Value
  | none => .pointer none
  | some b => .pointer (some ⟨b, 0, none⟩)
/-- The cells of a cache. -/
def lruC (n : Int) (M : Nat) (hd tl : Option Nat) (f : Value) (h m : Int) : Array Value := #[.int .i64 n, .map (some M), pE hd, pE tl, f, .int .i64 h, .int .i64 m]
/-- The cells of an entry. -/
def entC (k v : Int) (p n : Option Nat) : Array Value := #[.int .i64 k, .int .i64 v, pE p, pE n]
/-- Entries: block, key, value. -/
abbrev Ent := Nat × Int × Int
def headB : List Ent → Option Nat → Option Nat
  | [], d => d
  | x :: _, _ => some x.1
def lastB : List Ent → Option Nat → Option Nat
  | [], d => d
  | x :: r, _ => lastB r (some x.1)
/-- Entries in line, behind p, ahead of n. -/
def Seg (w : World) : Option Nat → List Ent → Option Nat → Prop
  | _, [], _ => True
  | p, x :: r, n => w.heap[x.1]? = some (.cells (entC x.2.1 x.2.2 p (headB r n)) 55 (0, 0)) ∧ Seg w (some x.1) r n

theorem headB_append : ∀ (A B : List Ent) (n : Option Nat), headB (A ++ B) n = headB A (headB B n)
  | [], _, _ => rfl
  | _ :: _, _, _ => rfl
theorem lastB_append : ∀ (A B : List Ent) (p : Option Nat), lastB (A ++ B) p = lastB B (lastB A p)
  | [], _, _ => rfl
  | x :: r, B, p => lastB_append r B (some x.1)
theorem lastB_snoc (A : List Ent) (x : Ent) (p : Option Nat) : lastB (A ++ [x]) p = some x.1 := by rw [lastB_append]; rfl
theorem seg_append {w : World} : ∀ (A B : List Ent) (p n : Option Nat), Seg w p (A ++ B) n ↔ Seg w p A (headB B n) ∧ Seg w (lastB A p) B n
  | [], B, p, n => by simp [Seg, lastB]
  | x :: r, B, p, n => by
    have := seg_append (w := w) r B (some x.1) n
    simp only [List.cons_append, Seg, lastB, headB_append, this, and_assoc]
theorem seg_congr {w w' : World} : ∀ {L : List Ent} {p n : Option Nat}, Seg w p L n → (∀ x ∈ L, w'.heap[x.1]? = w.heap[x.1]?) → Seg w' p L n
  | [], _, _, _, _ => trivial
  | x :: r, p, n, h, hc => ⟨(hc x (by simp)).trans h.1, seg_congr h.2 (fun y hy => hc y (by simp [hy]))⟩
theorem seg_mem {w : World} : ∀ {L : List Ent} {p n : Option Nat}, Seg w p L n → ∀ x ∈ L, ∃ a b, w.heap[x.1]? = some (.cells (entC x.2.1 x.2.2 a b) 55 (0, 0))
  | x :: r, p, n, h, y, hy => by
    rcases List.mem_cons.1 hy with rfl | hy
    · exact ⟨_, _, h.1⟩
    · exact seg_mem h.2 y hy

/-- The cache's block c and its entries, in line. -/
structure Dll (w : World) (base c : Nat) (n : Int) (M : Nat) (f : Value) (L : List Ent) : Prop where
  blk : ∃ h m, w.heap[c]? = some (.cells (lruC n M (headB L none) (lastB L none) f h m) 52 (0, 0))
  seg : Seg w none L none
  nodup : (L.map (·.1)).Nodup
  bc : base ≤ c
  bl : ∀ x ∈ L, base ≤ x.1

theorem keyed3 : Keyed Try.prog 3 := Maps.int_keyed Try.underlying3
open Classical in
/-- How a map's element reads: by its block. -/
noncomputable def rdE (v : Value) : Option (DataW Unit × List MemPlace) :=
  if h : ∃ o : Option Nat, v = pE o then some (.lit (.int .i64 (match h.choose with | none => -1 | some b => (b : Int))), []) else none
theorem pE_inj {a b : Option Nat} (h : pE a = pE b) : a = b := by
  cases a <;> cases b <;> simp_all [pE]
theorem rdE_none : rdE (.pointer none) = some (.lit (.int .i64 (-1)), []) := by
  have h : ∃ o : Option Nat, Value.pointer none = pE o := ⟨none, rfl⟩
  unfold rdE
  rw [dif_pos h]
  have e : h.choose = none := by
    have := h.choose_spec
    exact (pE_inj (a := none) this).symm
  rw [e]
theorem rdE_some (b : Nat) : rdE (.pointer (some ⟨b, 0, none⟩)) = some (.lit (.int .i64 (b : Int)), []) := by
  have h : ∃ o : Option Nat, Value.pointer (some ⟨b, 0, none⟩) = pE o := ⟨some b, rfl⟩
  unfold rdE
  rw [dif_pos h]
  have e : h.choose = some b := by
    have := h.choose_spec
    exact (pE_inj (a := some b) this).symm
  rw [e]
theorem rdE_inv {v : Value} {d : DataW Unit} {ps : List MemPlace} (h : rdE v = some (d, ps)) : ∃ o : Option Nat, v = pE o ∧ d = .lit (.int .i64 (match o with | none => -1 | some b => (b : Int))) := by
  unfold rdE at h
  split at h
  · rename_i hx
    simp only [Option.some.injEq, Prod.mk.injEq] at h
    exact ⟨hx.choose, hx.choose_spec, h.1.symm⟩
  · cases h
theorem rdE_inv_none {v : Value} {d : DataW Unit} {ps : List MemPlace} (h : rdE v = some (d, ps)) (hd : d = .lit (.int .i64 (-1))) : v = .pointer none := by
  obtain ⟨o, rfl, e⟩ := rdE_inv h
  rw [e] at hd
  cases o with
  | none => rfl
  | some b => simp only [DataW.lit.injEq, Lit.int.injEq, true_and] at hd; omega
theorem rdE_inv_some {v : Value} {d : DataW Unit} {ps : List MemPlace} {b : Nat} (h : rdE v = some (d, ps)) (hd : d = .lit (.int .i64 (b : Int))) : v = .pointer (some ⟨b, 0, none⟩) := by
  obtain ⟨o, rfl, e⟩ := rdE_inv h
  rw [e] at hd
  cases o with
  | none => simp only [DataW.lit.injEq, Lit.int.injEq, true_and] at hd; omega
  | some b' =>
    simp only [DataW.lit.injEq, Lit.int.injEq, true_and] at hd
    have : b' = b := by omega
    rw [this]; rfl

/-- Block M is the map from the entries' keys to the entries. -/
structure MapOf (w : World) (M : Nat) (L : List Ent) : Prop where
  own : ∃ D : DataW Unit, w.ownsMap Try.prog 3 rdE M L.length D ∧ Maps.Tidy D ∧ Maps.size D = L.length ∧ (∀ x ∈ L, ∀ z, D.atKey (.int .i64 x.2.1) z = .lit (.int .i64 (x.1 : Int))) ∧ (∀ k, (∀ x ∈ L, x.2.1 ≠ k) → ∀ z, D.atKey (.int .i64 k) z = z)
  keys : (L.map (·.2.1)).Nodup
  wf : ∀ x ∈ L, (Lit.int .i64 x.2.1).wf = true

theorem own_tight {w : World} {M n : Nat} {D : DataW Unit} (h : w.ownsMap Try.prog 3 rdE M n D) : w.ownsMap Try.prog 3 rdE M (Maps.size D) D := by
  obtain ⟨es, clock, hb, F, hs, rfl⟩ := h
  exact ⟨es, clock, hb, F, by simp [Maps.size, length_sorted], rfl⟩
theorem MapOf.blk {w : World} {M : Nat} {L : List Ent} (h : MapOf w M L) : ∃ es ck, w.heap[M]? = some (.map es ck) := by
  obtain ⟨D, ⟨es, clock, hb, _⟩, _⟩ := h.own
  exact ⟨es, clock, hb⟩
theorem MapOf.kept {w w' : World} {M : Nat} {L : List Ent} (h : MapOf w M L) (hh : w'.heap[M]? = w.heap[M]?) : MapOf w' M L := by
  obtain ⟨⟨D, ⟨es, clock, hb, F, hs, hD⟩, r⟩, h2, h3⟩ := h
  exact ⟨⟨D, ⟨es, clock, hh.trans hb, F, hs, hD⟩, r⟩, h2, h3⟩
theorem MapOf.perm {w : World} {M : Nat} {L L' : List Ent} (h : MapOf w M L) (hp : L.Perm L') : MapOf w M L' := by
  obtain ⟨⟨D, h1, h2, h3, h4, h5⟩, h6, h7⟩ := h
  have hl := hp.length_eq
  exact ⟨⟨D, hl ▸ h1, h2, hl ▸ h3, fun x hx => h4 x (hp.mem_iff.2 hx), fun k hk => h5 k (fun x hx => hk x (hp.mem_iff.1 hx))⟩, (hp.map _).nodup_iff.1 h6, fun x hx => h7 x (hp.mem_iff.2 hx)⟩
/-- Values are none of the map's business. -/
theorem MapOf.value {w : World} {M : Nat} {A B : List Ent} {x : Ent} (h : MapOf w M (A ++ x :: B)) (v : Int) : MapOf w M (A ++ (x.1, x.2.1, v) :: B) := by
  obtain ⟨⟨D, h1, h2, h3, h4, h5⟩, h6, h7⟩ := h
  refine ⟨⟨D, by simpa using h1, h2, by simpa using h3, ?_, ?_⟩, by simpa using h6, ?_⟩
  · intro y hy z
    rcases List.mem_append.1 hy with hy | hy
    · exact h4 y (by simp [hy]) z
    · rcases List.mem_cons.1 hy with rfl | hy
      · exact h4 x (by simp) z
      · exact h4 y (by simp [hy]) z
  · intro k hk z
    refine h5 k (fun y hy => ?_) z
    rcases List.mem_append.1 hy with hy | hy
    · exact hk y (by simp [hy])
    · rcases List.mem_cons.1 hy with rfl | hy
      · exact hk (y.1, y.2.1, v) (by simp)
      · exact hk y (by simp [hy])
  · intro y hy
    rcases List.mem_append.1 hy with hy | hy
    · exact h7 y (by simp [hy])
    · rcases List.mem_cons.1 hy with rfl | hy
      · exact h7 x (by simp)
      · exact h7 y (by simp [hy])
theorem MapOf.made {w : World} {M : Nat} (h : w.heap[M]? = some (.map #[] 0)) : MapOf w M [] :=
  ⟨⟨.map [], ⟨#[], 0, h, ⟨by simp, MapKept.stamped_empty 0, by simp⟩, Nat.le_refl _, rfl⟩, Maps.tidy_empty, rfl, by simp, fun k _ z => rfl⟩, by simp, by simp⟩
theorem zeroE (w : World) : (zeroValue 50).run Try.prog w = .ok (.pointer none) w := by kernel_rfl
theorem MapOf.found {w : World} {M : Nat} {L : List Ent} (h : MapOf w M L) {x : Ent} (hx : x ∈ L) :
    (Instr.lookup 49 (.map (some M)) (.int .i64 x.2.1) true).run Try.prog w = .ok (.tuple #[.pointer (some ⟨x.1, 0, none⟩), .bool true]) w := by
  obtain ⟨⟨D, h1, h2, h3, h4, h5⟩, h6, h7⟩ := h
  obtain ⟨v, ps, hrun, hv⟩ := h1.look_ok keyed3 Try.underlying49 (zeroE w) rdE_none (Maps.keyOf_int_mk Try.underlying3 (h7 x hx))
  rw [rdE_inv_some hv (h4 x hx _), Maps.has_true_of_atKey (fun z => h4 x hx z)] at hrun
  exact hrun
theorem MapOf.lacks {w : World} {M : Nat} {L : List Ent} (h : MapOf w M L) {k : Int} (hk : ∀ x ∈ L, x.2.1 ≠ k) (hw : (Lit.int .i64 k).wf = true) :
    (Instr.lookup 49 (.map (some M)) (.int .i64 k) true).run Try.prog w = .ok (.tuple #[.pointer none, .bool false]) w := by
  obtain ⟨⟨D, h1, h2, h3, h4, h5⟩, h6, h7⟩ := h
  obtain ⟨v, ps, hrun, hv⟩ := h1.look_ok keyed3 Try.underlying49 (zeroE w) rdE_none (Maps.keyOf_int_mk Try.underlying3 hw)
  rw [rdE_inv_none hv (h5 k hk _), Maps.has_false_of_atKey (fun z => h5 k hk z)] at hrun
  exact hrun
theorem MapOf.len {w : World} {M : Nat} {L : List Ent} (h : MapOf w M L) (ty : TypeId) : (Builtin.len_ #[49] ty #[.map (some M)]).run Try.prog w = .ok (.int .i64 (L.length : Int)) w := by
  obtain ⟨⟨D, h1, h2, h3, h4, h5⟩, h6, h7⟩ := h
  have := h1.len Try.underlying49 ty
  rw [h3] at this
  exact this
theorem MapOf.put {w : World} {M : Nat} {L : List Ent} (h : MapOf w M L) (hn : L.length ≤ 1000000) (x : Ent) (hk : ∀ y ∈ L, y.2.1 ≠ x.2.1) (hw : (Lit.int .i64 x.2.1).wf = true) :
    ∃ w', (Instr.mapUpdate 49 (.map (some M)) (.int .i64 x.2.1) (.pointer (some ⟨x.1, 0, none⟩))).run Try.prog w = .ok () w' ∧ MapOf w' M (x :: L) ∧ w.mapTurned w' M := by
  obtain ⟨⟨D, h1, h2, h3, h4, h5⟩, h6, h7⟩ := h
  have hkey := Maps.keyOf_int_mk (P := Try.prog) Try.underlying3 hw
  obtain ⟨w', hrun, hown', hg⟩ := h1.store keyed3 Try.underlying49 (by unfold maxLen; omega) hkey (rdE_some x.1)
  have hhas : Maps.has D (.int .i64 x.2.1) = false := Maps.has_false_of_atKey (fun z => h5 _ hk z)
  have hsz := Maps.size_put (k := .int .i64 x.2.1) h2 (.lit (.int .i64 (x.1 : Int)) : DataW Unit)
  rw [hhas] at hsz
  simp only [Bool.false_eq_true, if_false] at hsz
  refine ⟨w', hrun, ⟨⟨_, ?_, h2.put (keyed3.key hkey) _, by rw [hsz, h3]; simp, ?_, ?_⟩, ?_, ?_⟩, hg⟩
  · simpa using hown'
  · intro y hy z
    rcases List.mem_cons.1 hy with rfl | hy
    · exact Maps.atKey_put_same h2.isMap (keyed3.key hkey) _ z
    · rw [Maps.atKey_put_other (by intro e; injection e with _ e; exact hk y hy e)]
      exact h4 y hy z
  · intro k hk' z
    rw [Maps.atKey_put_other (by intro e; injection e with _ e; exact hk' x (by simp) e.symm)]
    exact h5 k (fun y hy => hk' y (by simp [hy])) z
  · rw [List.map_cons, List.nodup_cons]
    refine ⟨fun hm => ?_, h6⟩
    obtain ⟨y, hy, e⟩ := List.mem_map.1 hm
    exact hk y hy e
  · intro y hy
    rcases List.mem_cons.1 hy with rfl | hy
    · exact hw
    · exact h7 y hy
theorem MapOf.del {w : World} {M : Nat} {A B : List Ent} {x : Ent} (h : MapOf w M (A ++ x :: B)) (ty : TypeId) :
    ∃ w', (Builtin.delete_ #[49, 3] ty #[.map (some M), .int .i64 x.2.1]).run Try.prog w = .ok (.tuple #[]) w' ∧ MapOf w' M (A ++ B) ∧ w.mapTurned w' M := by
  obtain ⟨⟨D, h1, h2, h3, h4, h5⟩, h6, h7⟩ := h
  have hx : x ∈ A ++ x :: B := by simp
  have hkey := Maps.keyOf_int_mk (P := Try.prog) Try.underlying3 (h7 x hx)
  obtain ⟨w', hrun, hown', hg⟩ := h1.drop keyed3 Try.underlying49 hkey ty
  have hhas : Maps.has D (.int .i64 x.2.1) = true := Maps.has_true_of_atKey (fun z => h4 x hx z)
  have hsz := Maps.size_del (k := .int .i64 x.2.1) h2
  rw [hhas] at hsz
  simp only [if_true] at hsz
  have hl : (A ++ x :: B).length = (A ++ B).length + 1 := by simp; omega
  have hsz' : Maps.size (D.del (.int .i64 x.2.1)) = (A ++ B).length := by omega
  have hnd : ∀ y ∈ A ++ B, y.2.1 ≠ x.2.1 := by
    intro y hy e
    rw [List.map_append, List.map_cons] at h6
    have h8 := List.perm_middle.nodup_iff.1 h6
    have h9 := (List.nodup_cons.1 h8).1
    apply h9
    rw [← List.map_append, ← e]
    exact List.mem_map.2 ⟨y, hy, rfl⟩
  refine ⟨w', hrun, ⟨⟨_, hsz' ▸ own_tight hown', h2.del _, hsz', ?_, ?_⟩, ?_, ?_⟩, hg⟩
  · intro y hy z
    rw [Maps.atKey_del_other (by intro e; injection e with _ e; exact hnd y hy e)]
    exact h4 y (by rcases List.mem_append.1 hy with h | h <;> simp [h]) z
  · intro k hk z
    by_cases e : k = x.2.1
    · rw [e]; exact Maps.atKey_del_same z
    · rw [Maps.atKey_del_other (by intro e'; injection e' with _ e'; exact e e')]
      refine h5 k (fun y hy => ?_) z
      rcases List.mem_append.1 hy with h | h
      · exact hk y (by simp [h])
      · rcases List.mem_cons.1 h with rfl | h
        · exact fun e' => e e'.symm
        · exact hk y (by simp [h])
  · rw [List.map_append, List.map_cons] at h6
    have h8 := List.perm_middle.nodup_iff.1 h6
    rw [List.map_append]
    exact (List.nodup_cons.1 h8).2
  · intro y hy
    exact h7 y (by rcases List.mem_append.1 hy with h | h <;> simp [h])
end Go.Proofs.Ytjncpidadcfncaa.Hand
