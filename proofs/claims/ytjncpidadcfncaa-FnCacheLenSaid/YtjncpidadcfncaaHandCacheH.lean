/- The cache: how one is made; what a script of calls gives, by the entries' number alone. -/
import Derived.Test.YtjncpidadcfncaaHandCacheG
import Derived.Test.YtjncpidadcfncaaPFnCacheLenx1
namespace Go.Proofs.Ytjncpidadcfncaa.Hand
open Go.RowKit Go.Proofs.YtjncpidadcfncaaW.PrintWords Go.Proofs.Ytjncpidadcfncaa.Base
open Go.Maps (Keyed)
open Go.Proofs.Ytjncpidadcfncaa.PFnCacheLen (S25 k25 z25 rd_T25 at_T25)
set_option linter.unusedVariables false
set_option linter.unusedSimpArgs false

/-- What a call gave, in short: Ok, Val, how many went. -/
abbrev Out3 := Bool × Int × Nat
def kOut : Kd Out3 where
  sz := 6
  E := []
  K := fun _ x cs => ∃ (key : Int) (rate : Nat) (asked : Bool) (A : Option Addr) (c : Nat), cs = (outC x.1 key x.2.1 rate asked (.slice A x.2.2 c)).toList
  M := fun _ _ _ x cs => ∃ (key : Int) (rate : Nat) (asked : Bool) (A : Option Addr) (c : Nat), cs = (outC x.1 key x.2.1 rate asked (.slice A x.2.2 c)).toList
  K_len := fun h => by obtain ⟨_, _, _, _, _, rfl⟩ := h; rfl
  K_one := fun h u hu => by
    obtain ⟨_, _, _, _, _, rfl⟩ := h
    simp only [outC, List.mem_cons, List.not_mem_nil, or_false] at hu
    rcases hu with rfl | rfl | rfl | rfl | rfl | rfl <;> rfl
  K_below := fun _ h => h
  K_of_M := fun h => h
  M_mono := fun _ h => h
  M_bound := fun h => h
  M_move := fun _ h => h
  M_lower := fun _ h => h
theorem infoOut : (Try.prog.info? 32).map (fun i => (i.zero, i.size, i.bytes)) = some (some (.agg (outC false 0 0 0 false (.slice none 0 0))), 6, 64) := by kernel_rfl

/-- One call, of kind d, at l entries: what it gave, and how many are there behind it. -/
def St (n : Nat) (d : Int) (l : Nat) (o : Out3) (l' : Nat) : Prop :=
  l' ≤ n ∧ (∃ a r : Nat, l' + o.2.2 + r = l + a ∧ a ≤ 1 ∧ (a = 1 → d = 0 ∨ d = 2) ∧ r = (if d = 3 ∧ o.1 = true then 1 else 0)) ∧ (d = 6 → o.2.1 = (l : Int) ∧ l' = l) ∧ (d = 7 → o.2.1 = (n : Int) ∧ l' = l)
/-- Calls, one behind the other. -/
def RunTo (n : Nat) : Nat → List Int → List Out3 → Nat → Prop
  | l, [], outs, l' => outs = [] ∧ l' = l
  | l, d :: ds, outs, l' => ∃ o rest l1, outs = o :: rest ∧ St n d l o l1 ∧ RunTo n l1 ds rest l'
theorem RunTo.snoc {n : Nat} : ∀ {l : Nat} {ds : List Int} {outs : List Out3} {l1 l2 : Nat} {d : Int} {o : Out3}, RunTo n l ds outs l1 → St n d l1 o l2 → RunTo n l (ds ++ [d]) (outs ++ [o]) l2
  | l, [], outs, l1, l2, d, o, h, s => by
    obtain ⟨rfl, rfl⟩ := h
    exact ⟨o, [], l2, rfl, s, rfl, rfl⟩
  | l, d0 :: ds, outs, l1, l2, d, o, h, s => by
    obtain ⟨o0, rest, l0, rfl, s0, h⟩ := h
    exact ⟨o0, rest ++ [o], l0, rfl, s0, RunTo.snoc h s⟩
theorem RunTo.length {n : Nat} : ∀ {l : Nat} {ds : List Int} {outs : List Out3} {l1 : Nat}, RunTo n l ds outs l1 → outs.length = ds.length
  | l, [], outs, l1, h => by obtain ⟨rfl, rfl⟩ := h; rfl
  | l, d0 :: ds, outs, l1, h => by
    obtain ⟨o0, rest, l0, rfl, s0, h⟩ := h
    simp [RunTo.length h]

set_option maxHeartbeats 4000000 in
set_option maxRecDepth 100000 in
theorem newEvict (w : World) (n : Nat) (fv : Value) (hn : 1 ≤ n) (hn2 : n ≤ 1000) (hf : fv = .nilFunc ∨ ∃ g, fv = fnV g) :
    Calls Try.prog 7 #[.int .i64 (n : Int), fv] w fun r w' => ∃ c M, r = .returned (.pointer (some ⟨c, 0, none⟩)) ∧ w'.heap[c]? = some (.cells (lruC (n : Int) M none none fv 0 0) 52 (0, 0)) ∧ w'.heap[M]? = some (.map #[] 0) ∧ w.heap.size ≤ c ∧ w.heap.size ≤ M ∧ Below w.heap.size w w' := by
  have p1 : decide (n = 0) = false := decide_eq_false (by omega)
  have p2 : decide ((n : Int) ≤ 0) = false := decide_eq_false (by omega)
  have p3 : decide (100000 < (n : Int)) = false := decide_eq_false (by omega)
  have p4 : decide (100000 < n) = false := decide_eq_false (by omega)
  have hmm : (Instr.makeMap 49 (some (.int .i64 (n : Int)))).run Try.prog w = .ok (.map (some w.heap.size)) (w.alloc (.map #[] 0)) := by
    simp [Instr.makeMap, run_underlying Try.underlying49, asInt, asIntOf]
  have fin : ∀ u : Value, ∃ c M, Ending.returned (.pointer (some ⟨w.heap.size + 1, 0, none⟩)) = Ending.returned (.pointer (some ⟨c, 0, none⟩)) ∧ ((w.alloc (.map #[] 0)).alloc (.cells (lruC (n : Int) w.heap.size none none u 0 0) 52)).heap[c]? = some (.cells (lruC (n : Int) M none none u 0 0) 52 (0, 0)) ∧ ((w.alloc (.map #[] 0)).alloc (.cells (lruC (n : Int) w.heap.size none none u 0 0) 52)).heap[M]? = some (.map #[] 0) ∧ w.heap.size ≤ c ∧ w.heap.size ≤ M ∧ Below w.heap.size w ((w.alloc (.map #[] 0)).alloc (.cells (lruC (n : Int) w.heap.size none none u 0 0) 52)) := by
    intro u
    have hs : (w.alloc (.map #[] 0)).heap.size = w.heap.size + 1 := by simp
    refine ⟨w.heap.size + 1, w.heap.size, rfl, by rw [← hs]; exact blk_new _ _, blk_alloc (blk_new w _) _, by omega, Nat.le_refl _, below_alloc (below_alloc (Below.refl _ w) _) _⟩
  have FIN := Aside0.mk fin
  clear fin
  rcases hf with rfl | ⟨g, rfl⟩
  · go_enter Try.func7, Try.ntmps7
    go_wp2
    go_ret
    obtain ⟨c, M, h⟩ := FIN.out .nilFunc
    exact ⟨c, M, h⟩
  · unfold fnV
    go_enter Try.func7, Try.ntmps7
    go_wp2
    go_ret
    obtain ⟨c, M, h⟩ := FIN.out (fnV g)
    exact ⟨c, M, h⟩

set_option maxHeartbeats 4000000 in
set_option maxRecDepth 100000 in
theorem newLRU (w : World) (n : Nat) (hn : 1 ≤ n) (hn2 : n ≤ 1000) :
    Calls Try.prog 6 #[.int .i64 (n : Int)] w fun r w' => ∃ c, r = .returned (.pointer (some ⟨c, 0, none⟩)) ∧ Below w.heap.size w w' := by
  go_enter Try.func6, Try.ntmps6
  go_wp2_with (go_at_call 7; refine (newEvict w n .nilFunc hn hn2 (.inl rfl)).mono ?_; rintro r w' ⟨c, M, rfl, h1, h2, h3, h4, h5⟩; have H5 := Aside0.mk h5; clear h1 h2 h3 h4 h5)
  go_ret
  exact ⟨c, rfl, H5.out⟩
end Go.Proofs.Ytjncpidadcfncaa.Hand
