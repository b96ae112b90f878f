/- How an argument of any kind is opened: what its reading as data says of its cells, kind by kind. No program in sight. -/
import Derived.Test.YtnmochachiieaaaDoorWWords
import Derived.SizedLaws
import Derived.ProofKit
import Derived.ChangeOld
import Derived.ShutString
import Derived.OpenShut
namespace Go.Proofs.YtnmochachiieaaaDoor.Open
open Go.RowKit Go.WideShapes Go.Proofs.YtnmochachiieaaaDoorW.PrintWords

/-- What reads as data of a type, is a value of a kind, and is well formed. -/
structure Opens {α : Type} (P : Program) (t : TypeId) (d : Kd α) (OK : α → Prop) : Prop where
  size : P.cellsOf t = d.sz
  get : ∀ {H : Type} {enc : TypeId × Value → H} {w : World} {base : Nat} {held : Bool} {fuel : Nat} {cs : List Value} {x : DataW H × List MemPlace},
    DataW.trod enc P w base (fun _ => true) held fuel t cs = some x → (∀ n ∈ x.1.weights P t, n ≤ reachBytes) → ∃ a, d.K w a cs ∧ OK a

theorem opens_int {P : Program} {t : TypeId} {k : IntKind} (ht : P.underlying t = some (.int k)) (hc : P.cellsOf t = 1) : Opens P t (Kd.int k) (fun x => (Lit.int k x).wf = true) where
  size := hc
  get := fun h _ => by
    obtain ⟨n, rfl, _, hw⟩ := DataW.trod_int ht h
    exact ⟨n, rfl, hw⟩
theorem opens_bool {P : Program} {t : TypeId} (ht : P.underlying t = some .bool) (hc : P.cellsOf t = 1) : Opens P t Kd.bool (fun _ => True) where
  size := hc
  get := fun h _ => by
    obtain ⟨n, rfl, _⟩ := DataW.trod_bool ht h
    exact ⟨n, rfl, trivial⟩
theorem opens_string {P : Program} {t : TypeId} (ht : P.underlying t = some .string) (hc : P.cellsOf t = 1) : Opens P t Kd.string (fun s => s.size ≤ 140737488351232) where
  size := hc
  get := fun h hw => by
    obtain ⟨s, rfl, rfl, _⟩ := DataW.trod_string ht h
    refine ⟨s, rfl, ?_⟩
    have h1 := hw s.data.toList.length (by simp [DataW.weights])
    have h2 : s.data.toList.length = s.size := by simp
    rw [h2] at h1
    exact h1

theorem pick {α : Type} (n : Nat) (Q : Nat → α → Prop) (h : ∀ i, i < n → ∃ a, Q i a) : ∃ xs : List α, xs.length = n ∧ ∀ j p, xs[j]? = some p → Q j p := by
  induction n with
  | zero => exact ⟨[], rfl, fun j p h => by simp at h⟩
  | succ n ih =>
    obtain ⟨xs, hl, hq⟩ := ih (fun i hi => h i (by omega))
    obtain ⟨a, ha⟩ := h n (by omega)
    refine ⟨xs ++ [a], by simp [hl], fun j p hj => ?_⟩
    rcases Nat.lt_or_ge j n with hlt | hge
    · rw [List.getElem?_append_left (by omega)] at hj
      exact hq j p hj
    · rw [List.getElem?_append_right (by omega)] at hj
      have hj0 : j = n := by
        rcases Nat.lt_or_ge (j - xs.length) 1 with h1 | h1
        · omega
        · rw [List.getElem?_eq_none (by simpa using h1)] at hj; cases hj
      subst hj0
      have : a = p := by simpa [hl] using hj
      subst this
      exact ha

theorem cells_each {w : World} {base : Nat} {a : Addr} {n : Nat} {cs : List Value} (h : w.cells? base a n = some cs) : cs.length = n ∧ ∀ i u, cs[i]? = some u → w.cell? (a.add i) = some u := by
  unfold World.cells? at h
  split at h
  · have hl : cs.length = n := by simpa using mapM_some_length h
    refine ⟨hl, fun i u hu => ?_⟩
    have hi : i < n := by
      rcases Nat.lt_or_ge i n with h1 | h1
      · exact h1
      · rw [List.getElem?_eq_none (by omega)] at hu; cases hu
    have := mapM_some_get h i i (by simp [hi])
    rw [this, hu]
  · cases h

theorem weightsAll_mem {H : Type} {P : Program} {e : TypeId} : ∀ {l : List (DataW H)} {d : DataW H}, d ∈ l → ∀ n ∈ d.weights P e, n ∈ DataW.weightsAll P e l
  | d0 :: l, d, hd, n, hn => by
    simp only [DataW.weightsAll, List.mem_append]
    rcases List.mem_cons.1 hd with h | h
    · subst h; exact .inl hn
    · exact .inr (weightsAll_mem h n hn)
  | [], _, hd, _, _ => by simp at hd

theorem opens_slice {α : Type} {P : Program} {t e : TypeId} {d : Kd α} {OK : α → Prop} {b : Nat} (ht : P.underlying t = some (.slice e)) (hc : P.cellsOf t = 1) (h : Opens P e d OK) (hb : P.bytesOf e = b) :
    Opens P t (Kd.slice e d) (fun xs => xs.length * b ≤ 140737488351232 ∧ xs.length ≤ maxLen ∧ ∀ x ∈ xs, OK x) where
  size := hc
  get := fun {H enc w base held fuel cs x} hx hw => by
    rcases DataW.trod_slice ht hx with ⟨rfl, rfl⟩ | ⟨a, len, cap, elems, rest, n, _, rfl, rfl, hba, hl, hm, hlen, hel, _, _⟩
    · exact ⟨[], ⟨none, 0, rfl, Nat.le_refl _, rfl, by simp, fun h0 => absurd h0 (by simp)⟩, by simp, by simp, fun x hx => by simp at hx⟩
    · have hwt : (elems.length + rest.length) * b ≤ reachBytes := by
        have := hw ((elems.length + rest.length) * P.bytesOf e) (by simp [DataW.weights, ht])
        rw [hb] at this
        exact this
      have each : ∀ i, i < len → ∃ p : α, ∃ c : List Value, c.length = d.sz ∧ d.K w p c ∧ OK p ∧ ∀ j u, c[j]? = some u → w.cell? (a.add (i * d.sz + j)) = some u := by
        intro i hi
        have h1 := hel i hi
        rw [List.getElem?_eq_getElem (by omega)] at h1
        obtain ⟨c, hcs, htr⟩ := Option.bind_eq_some_iff.1 h1
        obtain ⟨hcl, hcell⟩ := cells_each hcs
        obtain ⟨p, hK, hok⟩ := h.get htr (fun n hn => hw n (by
          simp only [DataW.weights, ht, List.mem_cons, List.mem_append]
          exact .inr (.inl (weightsAll_mem (List.mem_map.2 ⟨elems[i], List.getElem_mem _, rfl⟩) n hn))))
        refine ⟨p, c, by rw [hcl, h.size], hK, hok, fun j u hu => ?_⟩
        have := hcell j u hu
        rw [h.size] at this
        rw [← this]
        rw [Addr.add_add]
      obtain ⟨xs, hxl, hq⟩ := pick len (fun i p => ∃ c : List Value, c.length = d.sz ∧ d.K w p c ∧ OK p ∧ ∀ j u, c[j]? = some u → w.cell? (a.add (i * d.sz + j)) = some u) each
      refine ⟨xs, ⟨some a, cap, by rw [hxl], by omega, ⟨rfl, by unfold maxLen at hm; omega, fun _ => ⟨a, rfl, fun j p hj => ?_⟩⟩⟩, ?_, by omega, fun x hx => ?_⟩
      · obtain ⟨c, h1, h2, _, h4⟩ := hq j p hj
        exact ⟨c, h1, h2, h4⟩
      · rw [hxl, ← hlen]
        exact Nat.le_trans (Nat.mul_le_mul_right _ (by omega)) hwt
      · obtain ⟨j, hj, rfl⟩ := List.getElem_of_mem hx
        obtain ⟨_, _, _, hok, _⟩ := hq j _ (List.getElem?_eq_getElem hj)
        exact hok

/-- Fields in line. -/
structure OpensFs {α : Type} (P : Program) (fs : List Field) (off n : Nat) (d : Kd α) (OK : α → Prop) : Prop where
  size : n = d.sz
  get : ∀ {H : Type} {enc : TypeId × Value → H} {w : World} {base : Nat} {held : Bool} {fuel : Nat} {cs : List Value} {xs : List (DataW H × List MemPlace)},
    (∀ (i : Nat) (f : Field), fs[i]? = some f → DataW.trod enc P w base (fun _ => true) held fuel f.type ((cs.drop f.offset).take (P.cellsOf f.type)) = xs[i]?) → xs.length = fs.length →
    (∀ m ∈ DataW.weightsEach P (fs.map (·.type)) (xs.map (·.1)), m ≤ reachBytes) → ∃ a, d.K w a ((cs.drop off).take n) ∧ OK a

theorem opens_field {α : Type} {P : Program} {f : Field} {off n : Nat} {d : Kd α} {OK : α → Prop} (h : Opens P f.type d OK) (ho : f.offset = off) (hn : P.cellsOf f.type = n) : OpensFs P [f] off n d OK where
  size := by rw [← hn, h.size]
  get := fun {H enc w base held fuel cs xs} hx hl hw => by
    match xs, hl with
    | [y], _ =>
      have h0 := hx 0 f rfl
      obtain ⟨a, hK, hok⟩ := h.get (x := y) (by simpa using h0) (fun m hm => hw m (by simp [DataW.weightsEach, hm]))
      exact ⟨a, by rw [ho, hn] at hK; exact hK, hok⟩

theorem opens_fields {α β : Type} {P : Program} {f : Field} {fs : List Field} {off n m : Nat} {d : Kd α} {d2 : Kd β} {OK : α → Prop} {OK2 : β → Prop} (h : Opens P f.type d OK) (ho : f.offset = off) (hn : P.cellsOf f.type = n) (h2 : OpensFs P fs (off + n) m d2 OK2) :
    OpensFs P (f :: fs) off (n + m) (Kd.pair d d2) (fun x => OK x.1 ∧ OK2 x.2) where
  size := by
    show n + m = d.sz + d2.sz
    rw [← h.size, hn, h2.size]
  get := fun {H enc w base held fuel cs xs} hx hl hw => by
    match xs, hl with
    | y :: ys, hl =>
      have h0 := hx 0 f rfl
      obtain ⟨a, hK, hok⟩ := h.get (x := y) (by simpa using h0) (fun m hm => hw m (by simp [DataW.weightsEach, hm]))
      obtain ⟨b, hK2, hok2⟩ := h2.get (xs := ys) (fun i g hg => by simpa using hx (i + 1) g (by simpa using hg)) (by simpa using hl) (fun m hm => hw m (by
        simp only [List.map_cons, DataW.weightsEach, List.mem_append]
        exact .inr hm))
      refine ⟨(a, b), ⟨(cs.drop off).take n, (cs.drop (off + n)).take m, ?_, by rw [ho, hn] at hK; exact hK, hK2⟩, hok, hok2⟩
      rw [List.take_add, List.drop_drop]

theorem opens_struct {α β : Type} {P : Program} {t : TypeId} {fs : Array Field} {n : Nat} {d : Kd α} {OK : α → Prop} (ht : P.underlying t = some (.struct fs)) (hn : P.cellsOf t = n) (h : OpensFs P fs.toList 0 n d OK) (f : β → α) (g : α → β) (hfg : ∀ a, f (g a) = a) :
    Opens P t (Kd.iso d f) (fun b => OK (f b)) where
  size := by
    show P.cellsOf t = d.sz
    rw [hn, h.size]
  get := fun {H enc w base held fuel cs x} hx hw => by
    obtain ⟨xs, k, _, rfl, hl, hxl, hf⟩ := DataW.trod_struct ht hx
    obtain ⟨a, hK, hok⟩ := h.get (xs := xs) (cs := cs) (fun i g hg => hf i g (by simpa using hg)) (by simpa using hxl) (fun m hm => hw m (by simp only [DataW.weights, ht]; exact hm))
    refine ⟨g a, ?_, by rw [hfg]; exact hok⟩
    show d.K w (f (g a)) cs
    rw [hfg]
    rw [List.drop_zero, List.take_of_length_le (by rw [hl, hn]; exact Nat.le_refl _)] at hK
    exact hK

/-- Of a parameter: its weights are bounded. -/
theorem param {H : Type} {P : Program} {ts : List TypeId} {ds : List (DataW H)} (h : (DataW.weightsEach P ts ds).all (· ≤ reachBytes) = true) {j : Nat} {t : TypeId} {d : DataW H} (ht : ts[j]? = some t) (hd : ds[j]? = some d) : ∀ n ∈ d.weights P t, n ≤ reachBytes := by
  intro n hn
  have := List.all_eq_true.1 h _ (DataW.weights_mem_each ht hd n hn)
  simpa using this

/-- A slice that came in. -/
theorem open_row {α : Type} {H : Type} {enc : TypeId × Value → H} {P : Program} {w : World} {base0 base : Nat} {held : Bool} {r : Reach} {t e : TypeId} {d : Kd α} {OK : List α → Prop} {v : Value} {x : DataW H} {p : List MemPlace} (h : Opens P t (Kd.slice e d) OK)
    (ht : P.underlying t = some (.slice e)) (hv : Value.okWide P w r base0 t v) (hx : DataW.Trod enc P w base (fun _ => true) held t v x p) (hw : ∀ n ∈ x.weights P t, n ≤ reachBytes) :
    ∃ (A : Option Addr) (c : Nat) (l : List α), v = .slice A l.length c ∧ l.length ≤ c ∧ d.C w A l.length l ∧ OK l := by
  obtain ⟨a, len, cap, rfl⟩ := okWide_slice ht hv
  obtain ⟨fuel, hf⟩ := hx
  obtain ⟨l, ⟨A, c, hcs, hlc, hC⟩, hok⟩ := h.get hf hw
  simp [Value.cells] at hcs
  obtain ⟨rfl, rfl, rfl⟩ := hcs
  exact ⟨_, _, l, rfl, hlc, hC, hok⟩
/-- A struct that came in by value. -/
theorem open_rec {α : Type} {H : Type} {enc : TypeId × Value → H} {P : Program} {w : World} {base0 base : Nat} {held : Bool} {r : Reach} {t : TypeId} {fs : Array Field} {d : Kd α} {OK : α → Prop} {v : Value} {x : DataW H} {p : List MemPlace} (h : Opens P t d OK)
    (ht : P.underlying t = some (.struct fs)) (hv : Value.okWide P w r base0 t v) (hx : DataW.Trod enc P w base (fun _ => true) held t v x p) (hw : ∀ n ∈ x.weights P t, n ≤ reachBytes) :
    ∃ (cs : List Value) (a : α), v = .agg cs.toArray ∧ d.K w a cs ∧ OK a := by
  obtain ⟨cs, rfl, _⟩ := okWide_struct ht hv
  obtain ⟨fuel, hf⟩ := hx
  obtain ⟨a, hK, hok⟩ := h.get hf hw
  refine ⟨cs.toList, a, by simp, ?_, hok⟩
  simpa [Value.cells] using hK
end Go.Proofs.YtnmochachiieaaaDoor.Open
